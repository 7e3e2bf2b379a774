-- PRINTED BY print.sh 35421559b90ae4d0a3588c463048766b98c2df88dd9212a6774a882060cdf62d: not written by this session
import Derived.Test.YtaljobijdbgohaaPFnGlobLastsx0
namespace Go.Proofs.Ytaljobijdbgohaa.PFnGlobLasts
open Go.RowKit Go.Proofs.YtaljobijdbgohaaW.PrintWords Go.Proofs.YtaljobijdbgohaaW.PrintLast Go.Proofs.YtaljobijdbgohaaW.PrintMore
attribute [local go_sem] max2_int min2_int max_two min_two max_three min_three max_four min_four   -- for this text's walks alone
set_option linter.unusedVariables false
set_option linter.unusedSimpArgs false

/-! ### doublestar_lastIndexSlash: function 39 -/
def doublestar_lastIndexSlash.l0 : Nat → ByteArray → Int → Option (Int)
  | 0, _, _ => none
  | k + 1, x0, x3 => if x3 ≥ 0 then (if 0 ≤ x3 then (if x3 < (x0.size : Int) then (if (bt x0 x3) = 47 then (if x3 = 0 then (some x3) else (if 0 ≤ (wrap64 (x3 - 1)) then (if (wrap64 (x3 - 1)) < (x0.size : Int) then (if (bt x0 (wrap64 (x3 - 1))) = 92 then (doublestar_lastIndexSlash.l0 k x0 (wrap64 (x3 - 1))) else (some x3)) else (none)) else (none))) else (doublestar_lastIndexSlash.l0 k x0 (wrap64 (x3 - 1)))) else (none)) else (none)) else (some (-1))
def doublestar_lastIndexSlash.f (k : Nat) (a0 : ByteArray) : Option (Int) := doublestar_lastIndexSlash.l0 k a0 (wrap64 ((a0.size : Int) - 1))
theorem doublestar_lastIndexSlash.mono_l : ∀ k, (∀ y0 y1, LeO (doublestar_lastIndexSlash.l0 k y0 y1) (doublestar_lastIndexSlash.l0 (k + 1) y0 y1))
  | 0 => fun _ _ r h => by simp [doublestar_lastIndexSlash.l0] at h
  | k + 1 => by
    have ih0 := doublestar_lastIndexSlash.mono_l k
    · intro y0 y1
      unfold doublestar_lastIndexSlash.l0
      repeat' first
      | (with_reducible exact ih0 _ _)
      | (with_reducible exact LeO.refl _)
      | (with_reducible exact LeO.none _)
      | (with_reducible refine LeO.ite ?_ ?_)
      | (with_reducible refine LeO.bind ?_ (fun _ => ?_))
      | exact ih0 _ _
      | exact LeO.none _
      | refine LeO.ite ?_ ?_
      | refine LeO.bind ?_ (fun _ => ?_)
theorem doublestar_lastIndexSlash.mono : ∀ a0 k, LeO (doublestar_lastIndexSlash.f k a0) (doublestar_lastIndexSlash.f (k + 1) a0) := by
  intro a0 k
  have ih0 := doublestar_lastIndexSlash.mono_l k
  unfold doublestar_lastIndexSlash.f
  repeat' first
      | (with_reducible exact ih0 _ _)
      | (with_reducible exact LeO.refl _)
      | (with_reducible exact LeO.none _)
      | (with_reducible refine LeO.ite ?_ ?_)
      | (with_reducible refine LeO.bind ?_ (fun _ => ?_))
      | exact ih0 _ _
      | exact LeO.none _
      | refine LeO.ite ?_ ?_
      | refine LeO.bind ?_ (fun _ => ?_)
set_option maxHeartbeats 8000000 in
set_option maxRecDepth 100000 in
theorem doublestar_lastIndexSlash.calls (k : Nat) (a0 : ByteArray) (r : Int) (w : World) (h : doublestar_lastIndexSlash.f k a0 = some r) :
    Calls Try.prog 39 #[.string a0] w fun e w' => e = .returned (.int .i64 r) ∧ Drawn0 w w' := by
  have H : (doublestar_lastIndexSlash.l0 k a0 (wrap64 ((a0.size : Int) - 1))) = some r := h
  clear h
  have H' := Aside0.mk H
  clear H
  go_enter Try.func39, Try.ntmps39
  go_wp2
  go_loopg [3] k (fun kq v3 w' => ∃ (x3_1 : Int), v3 = .int .i64 x3_1 ∧ Aside0 (doublestar_lastIndexSlash.l0 kq a0 x3_1 = some r) ∧ Aside0 (kq ≤ k) ∧ Drawn0 w w')
  case atStart => exact ⟨(wrap64 ((a0.size : Int) - 1)), (by first | rfl | (simp; done) | (simp [*]; done)), H', ⟨Nat.le_refl _⟩, by repeat (first | exact Drawn0.refl _ | apply Drawn0.step)⟩
  case round =>
    clear H'
    obtain ⟨x3_1, rfl, HA, HK1, ⟨m1, rfl⟩⟩ := hrel
    cases gk with
    | zero => exact absurd HA.out (by simp [doublestar_lastIndexSlash.l0])
    | succ k1 =>
      have H := HA.out
      clear HA
      simp only [doublestar_lastIndexSlash.l0] at H
      by_cases c2 : x3_1 ≥ 0
      · rw [if_pos c2] at H
        have c2b0 : decide (0 ≤ x3_1) = true := decide_eq_true c2
        clear c2
        by_cases c3 : 0 ≤ x3_1
        · rw [if_pos c3] at H
          have c3b0 : decide (0 ≤ x3_1) = true := decide_eq_true c3
          clear c3
          by_cases c4 : x3_1 < (a0.size : Int)
          · rw [if_pos c4] at H
            have c4b0 : decide (x3_1 < (a0.size : Int)) = true := decide_eq_true c4
            clear c4
            by_cases c6 : (bt a0 x3_1) = 47
            · rw [if_pos c6] at H
              have c6b0 : ((bt a0 x3_1) == 47) = true := beq_iff_eq.mpr c6
              have c6b1 : ((bt a0 x3_1) != 47) = false := bne_eq_false_iff_eq.mpr c6
              clear c6
              by_cases c7 : x3_1 = 0
              · rw [if_pos c7] at H
                have c7b0 : (x3_1 == 0) = true := beq_iff_eq.mpr c7
                have c7b1 : (x3_1 != 0) = false := bne_eq_false_iff_eq.mpr c7
                clear c7
                obtain rfl := Option.some.inj H
                have p5 : 0 ≤ (x3_1 : Int) := of_decide_eq_true (by first | (with_reducible assumption) | assumption)
                have q5 : x3_1 < (a0.size : Int) := of_decide_eq_true (by first | (with_reducible assumption) | assumption)
                have hx5 := bt_at a0 x3_1
                replace p5 := eq_true p5
                replace q5 := eq_true q5
                go_wp2
                go_ret
                exact ⟨by first | rfl | (simp; done) | (simp [*]; done), by repeat (first | exact Drawn0.refl _ | apply Drawn0.step)⟩
              · rw [if_neg c7] at H
                have c7b0 : (x3_1 == 0) = false := beq_eq_false_iff_ne.mpr c7
                have c7b1 : (x3_1 != 0) = true := bne_iff_ne.mpr c7
                obtain ⟨ji8, hji8⟩ : ∃ j_ : Int, (wrap64 (x3_1 - 1)) = j_ := ⟨_, rfl⟩
                replace H : (if 0 ≤ (ji8) then (if (ji8) < (a0.size : Int) then (if (bt a0 (ji8)) = 92 then (doublestar_lastIndexSlash.l0 k1 a0 ji8) else (some x3_1)) else (none)) else (none)) = some r := by first | (rw [hji8] at H; exact H) | (simp only [hji8] at H ⊢; exact H)
                have hji8w : (IntKind.i64.wrap (x3_1 - 1)) = ji8 := (i64_w _).trans hji8
                by_cases c9 : 0 ≤ (ji8)
                · rw [if_pos c9] at H
                  have c9b0 : decide (0 ≤ (ji8)) = true := decide_eq_true c9
                  clear c9
                  by_cases c10 : (ji8) < (a0.size : Int)
                  · rw [if_pos c10] at H
                    have c10b0 : decide ((ji8) < (a0.size : Int)) = true := decide_eq_true c10
                    clear c10
                    by_cases c12 : (bt a0 (ji8)) = 92
                    · rw [if_pos c12] at H
                      have c12b0 : ((bt a0 (ji8)) == 92) = true := beq_iff_eq.mpr c12
                      have c12b1 : ((bt a0 (ji8)) != 92) = false := bne_eq_false_iff_eq.mpr c12
                      clear c12
                      have H' := Aside0.mk H
                      clear H
                      have p5 : 0 ≤ (x3_1 : Int) := of_decide_eq_true (by first | (with_reducible assumption) | assumption)
                      have q5 : x3_1 < (a0.size : Int) := of_decide_eq_true (by first | (with_reducible assumption) | assumption)
                      have hx5 := bt_at a0 x3_1
                      replace p5 := eq_true p5
                      replace q5 := eq_true q5
                      have p11 : 0 ≤ ((ji8) : Int) := of_decide_eq_true (by first | (with_reducible assumption) | assumption)
                      have q11 : (ji8) < (a0.size : Int) := of_decide_eq_true (by first | (with_reducible assumption) | assumption)
                      have hx11 := bt_at a0 (ji8)
                      replace p11 := eq_true p11
                      replace q11 := eq_true q11
                      go_wp2
                      go_roundg k1
                      case measure => have := HK1.out; omega
                      case rel => exact ⟨(ji8), (by first | rfl | (simp; done) | (simp only [← hji8] <;> (first | rfl | simp)) | (simp [*]; done)), H', ⟨by have := HK1.out; omega⟩, by repeat (first | exact Drawn0.refl _ | apply Drawn0.step)⟩
                    · rw [if_neg c12] at H
                      have c12b0 : ((bt a0 (ji8)) == 92) = false := beq_eq_false_iff_ne.mpr c12
                      have c12b1 : ((bt a0 (ji8)) != 92) = true := bne_iff_ne.mpr c12
                      obtain rfl := Option.some.inj H
                      have p5 : 0 ≤ (x3_1 : Int) := of_decide_eq_true (by first | (with_reducible assumption) | assumption)
                      have q5 : x3_1 < (a0.size : Int) := of_decide_eq_true (by first | (with_reducible assumption) | assumption)
                      have hx5 := bt_at a0 x3_1
                      replace p5 := eq_true p5
                      replace q5 := eq_true q5
                      have p11 : 0 ≤ ((ji8) : Int) := of_decide_eq_true (by first | (with_reducible assumption) | assumption)
                      have q11 : (ji8) < (a0.size : Int) := of_decide_eq_true (by first | (with_reducible assumption) | assumption)
                      have hx11 := bt_at a0 (ji8)
                      replace p11 := eq_true p11
                      replace q11 := eq_true q11
                      go_wp2
                      go_ret
                      exact ⟨by first | rfl | (simp; done) | (simp only [← hji8] <;> (first | rfl | simp)) | (simp [*]; done), by repeat (first | exact Drawn0.refl _ | apply Drawn0.step)⟩
                  · rw [if_neg c10] at H
                    exact absurd H (by simp)
                · rw [if_neg c9] at H
                  exact absurd H (by simp)
            · rw [if_neg c6] at H
              have c6b0 : ((bt a0 x3_1) == 47) = false := beq_eq_false_iff_ne.mpr c6
              have c6b1 : ((bt a0 x3_1) != 47) = true := bne_iff_ne.mpr c6
              have H' := Aside0.mk H
              clear H
              have p5 : 0 ≤ (x3_1 : Int) := of_decide_eq_true (by first | (with_reducible assumption) | assumption)
              have q5 : x3_1 < (a0.size : Int) := of_decide_eq_true (by first | (with_reducible assumption) | assumption)
              have hx5 := bt_at a0 x3_1
              replace p5 := eq_true p5
              replace q5 := eq_true q5
              go_wp2
              go_roundg k1
              case measure => have := HK1.out; omega
              case rel => exact ⟨(wrap64 (x3_1 - 1)), (by first | rfl | (simp; done) | (simp [*]; done)), H', ⟨by have := HK1.out; omega⟩, by repeat (first | exact Drawn0.refl _ | apply Drawn0.step)⟩
          · rw [if_neg c4] at H
            exact absurd H (by simp)
        · rw [if_neg c3] at H
          exact absurd H (by simp)
      · rw [if_neg c2] at H
        have c2b0 : decide (0 ≤ x3_1) = false := decide_eq_false c2
        clear c2
        obtain rfl := Option.some.inj H
        go_wp2
        go_ret
        exact ⟨by first | rfl | (simp; done) | (simp [*]; done), by repeat (first | exact Drawn0.refl _ | apply Drawn0.step)⟩

/-! ### doublestar_ZzLastSlash: function 26 -/
def doublestar_ZzLastSlash.f (k : Nat) (a0 : ByteArray) : Option (Int) := (doublestar_lastIndexSlash.f k a0).bind fun t101 => (some t101)
theorem doublestar_ZzLastSlash.mono : ∀ a0 k, LeO (doublestar_ZzLastSlash.f k a0) (doublestar_ZzLastSlash.f (k + 1) a0) := by
  intro a0 k
  unfold doublestar_ZzLastSlash.f
  repeat' first
      | (with_reducible exact doublestar_lastIndexSlash.mono _ _)
      | (with_reducible exact LeO.refl _)
      | (with_reducible exact LeO.none _)
      | (with_reducible refine LeO.ite ?_ ?_)
      | (with_reducible refine LeO.bind ?_ (fun _ => ?_))
      | exact doublestar_lastIndexSlash.mono _ _
      | exact LeO.none _
      | refine LeO.ite ?_ ?_
      | refine LeO.bind ?_ (fun _ => ?_)
set_option maxHeartbeats 8000000 in
set_option maxRecDepth 100000 in
theorem doublestar_ZzLastSlash.calls (k : Nat) (a0 : ByteArray) (r : Int) (w : World) (h : doublestar_ZzLastSlash.f k a0 = some r) :
    Calls Try.prog 26 #[.string a0] w fun e w' => e = .returned (.int .i64 r) ∧ Drawn0 w w' := by
  have H : ((doublestar_lastIndexSlash.f k a0).bind fun t101 => (some t101)) = some r := h
  clear h
  replace H := Option.bind_eq_some_iff.mp H
  obtain ⟨t101, A20, H⟩ := H
  replace H : (some t101) = some r := H
  have A2 := Aside0.mk A20
  clear A20
  obtain rfl := Option.some.inj H
  go_enter Try.func26, Try.ntmps26
  go_wp2_with (first | ((with_reducible refine gate_callee (f := 39) rfl ?_); refine goesL_ (some 4) rfl rfl Try.func39 (by kernel_rfl) rfl #[.string a0] rfl (by (try simp only [List.map_toArray, List.map_cons, List.map_nil]); first | done | rfl | (simp only [List.length_drop, List.length_take]; rfl)) ?_; (with_reducible refine (doublestar_lastIndexSlash.calls k a0 t101 _ A2.out).mono ?_); rintro e w' ⟨rfl, ⟨nd, rfl⟩⟩; refine ⟨_, rfl, ?_⟩))
  go_ret
  exact ⟨by first | rfl | (simp; done) | (simp [*]; done), by repeat (first | exact Drawn0.refl _ | apply Drawn0.step)⟩

/-! ### impl_GlobLastSlash: function 13 -/
def impl_GlobLastSlash.f (k : Nat) (a0 : ByteArray) : Option (Int) := (doublestar_ZzLastSlash.f k a0).bind fun t102 => (some t102)
theorem impl_GlobLastSlash.mono : ∀ a0 k, LeO (impl_GlobLastSlash.f k a0) (impl_GlobLastSlash.f (k + 1) a0) := by
  intro a0 k
  unfold impl_GlobLastSlash.f
  repeat' first
      | (with_reducible exact doublestar_ZzLastSlash.mono _ _)
      | (with_reducible exact LeO.refl _)
      | (with_reducible exact LeO.none _)
      | (with_reducible refine LeO.ite ?_ ?_)
      | (with_reducible refine LeO.bind ?_ (fun _ => ?_))
      | exact doublestar_ZzLastSlash.mono _ _
      | exact LeO.none _
      | refine LeO.ite ?_ ?_
      | refine LeO.bind ?_ (fun _ => ?_)
set_option maxHeartbeats 8000000 in
set_option maxRecDepth 100000 in
theorem impl_GlobLastSlash.calls (k : Nat) (a0 : ByteArray) (r : Int) (w : World) (h : impl_GlobLastSlash.f k a0 = some r) :
    Calls Try.prog 13 #[.string a0] w fun e w' => e = .returned (.int .i64 r) ∧ Drawn0 w w' := by
  have H : ((doublestar_ZzLastSlash.f k a0).bind fun t102 => (some t102)) = some r := h
  clear h
  replace H := Option.bind_eq_some_iff.mp H
  obtain ⟨t102, A20, H⟩ := H
  replace H : (some t102) = some r := H
  have A2 := Aside0.mk A20
  clear A20
  obtain rfl := Option.some.inj H
  go_enter Try.func13, Try.ntmps13
  go_wp2_with (first | ((with_reducible refine gate_callee (f := 26) rfl ?_); refine goesL_ (some 4) rfl rfl Try.func26 (by kernel_rfl) rfl #[.string a0] rfl (by (try simp only [List.map_toArray, List.map_cons, List.map_nil]); first | done | rfl | (simp only [List.length_drop, List.length_take]; rfl)) ?_; (with_reducible refine (doublestar_ZzLastSlash.calls k a0 t102 _ A2.out).mono ?_); rintro e w' ⟨rfl, ⟨nd, rfl⟩⟩; refine ⟨_, rfl, ?_⟩))
  go_ret
  exact ⟨by first | rfl | (simp; done) | (simp [*]; done), by repeat (first | exact Drawn0.refl _ | apply Drawn0.step)⟩

/-! ### spec_GlobLast: function 14 -/
def spec_GlobLast.l0 : Nat → ByteArray → Bool → Int → Int → Option (Int)
  | 0, _, _, _, _ => none
  | k + 1, x0, x1, x5, x6 => if x6 < (x0.size : Int) then (if 0 ≤ x6 then (if (bt x0 x6) = 47 then (if x6 = 0 then (spec_GlobLast.l0 k x0 x1 x6 (wrap64 (x6 + 1))) else (if 0 ≤ (wrap64 (x6 - 1)) then (if (wrap64 (x6 - 1)) < (x0.size : Int) then (if (bt x0 (wrap64 (x6 - 1))) = 92 then (spec_GlobLast.l0 k x0 x1 x5 (wrap64 (x6 + 1))) else (spec_GlobLast.l0 k x0 x1 x6 (wrap64 (x6 + 1)))) else (none)) else (none))) else (if x1 = true then (if (bt x0 x6) = 125 then (if x6 = 0 then (spec_GlobLast.l0 k x0 x1 x6 (wrap64 (x6 + 1))) else (if 0 ≤ (wrap64 (x6 - 1)) then (if (wrap64 (x6 - 1)) < (x0.size : Int) then (if (bt x0 (wrap64 (x6 - 1))) = 92 then (spec_GlobLast.l0 k x0 x1 x5 (wrap64 (x6 + 1))) else (spec_GlobLast.l0 k x0 x1 x6 (wrap64 (x6 + 1)))) else (none)) else (none))) else (spec_GlobLast.l0 k x0 x1 x5 (wrap64 (x6 + 1)))) else (spec_GlobLast.l0 k x0 x1 x5 (wrap64 (x6 + 1))))) else (none)) else (some x5)
def spec_GlobLast.f (k : Nat) (a0 : ByteArray) (a1 : Bool) : Option (Int) := spec_GlobLast.l0 k a0 a1 (-1) 0
theorem spec_GlobLast.mono_l : ∀ k, (∀ y0 y1 y2 y3, LeO (spec_GlobLast.l0 k y0 y1 y2 y3) (spec_GlobLast.l0 (k + 1) y0 y1 y2 y3))
  | 0 => fun _ _ _ _ r h => by simp [spec_GlobLast.l0] at h
  | k + 1 => by
    have ih0 := spec_GlobLast.mono_l k
    · intro y0 y1 y2 y3
      unfold spec_GlobLast.l0
      repeat' first
      | (with_reducible exact ih0 _ _ _ _)
      | (with_reducible exact LeO.refl _)
      | (with_reducible exact LeO.none _)
      | (with_reducible refine LeO.ite ?_ ?_)
      | (with_reducible refine LeO.bind ?_ (fun _ => ?_))
      | exact ih0 _ _ _ _
      | exact LeO.none _
      | refine LeO.ite ?_ ?_
      | refine LeO.bind ?_ (fun _ => ?_)
theorem spec_GlobLast.mono : ∀ a0 a1 k, LeO (spec_GlobLast.f k a0 a1) (spec_GlobLast.f (k + 1) a0 a1) := by
  intro a0 a1 k
  have ih0 := spec_GlobLast.mono_l k
  unfold spec_GlobLast.f
  repeat' first
      | (with_reducible exact ih0 _ _ _ _)
      | (with_reducible exact LeO.refl _)
      | (with_reducible exact LeO.none _)
      | (with_reducible refine LeO.ite ?_ ?_)
      | (with_reducible refine LeO.bind ?_ (fun _ => ?_))
      | exact ih0 _ _ _ _
      | exact LeO.none _
      | refine LeO.ite ?_ ?_
      | refine LeO.bind ?_ (fun _ => ?_)
set_option maxHeartbeats 8000000 in
set_option maxRecDepth 100000 in
theorem spec_GlobLast.calls (k : Nat) (a0 : ByteArray) (a1 : Bool) (r : Int) (w : World) (h : spec_GlobLast.f k a0 a1 = some r) :
    Calls Try.prog 14 #[.string a0, .bool a1] w fun e w' => e = .returned (.int .i64 r) ∧ Drawn0 w w' := by
  have H : (spec_GlobLast.l0 k a0 a1 (-1) 0) = some r := h
  clear h
  have H' := Aside0.mk H
  clear H
  go_enter Try.func14, Try.ntmps14
  go_wp2
  go_loopg [5, 6] k (fun kq v5 v6 w' => ∃ (x5_1 : Int) (x6_1 : Int), v5 = .int .i64 x5_1 ∧ v6 = .int .i64 x6_1 ∧ Aside0 (spec_GlobLast.l0 kq a0 a1 x5_1 x6_1 = some r) ∧ Aside0 (kq ≤ k) ∧ Drawn0 w w')
  case atStart => exact ⟨((-1)), (0), (by first | rfl | (simp; done) | (simp [*]; done)), (by first | rfl | (simp; done) | (simp [*]; done)), H', ⟨Nat.le_refl _⟩, by repeat (first | exact Drawn0.refl _ | apply Drawn0.step)⟩
  case round =>
    clear H'
    try clear c1
    try clear p2
    obtain ⟨x5_1, x6_1, rfl, rfl, HA, HK1, ⟨m1, rfl⟩⟩ := hrel
    cases gk with
    | zero => exact absurd HA.out (by simp [spec_GlobLast.l0])
    | succ k1 =>
      have H := HA.out
      clear HA
      simp only [spec_GlobLast.l0] at H
      by_cases c3 : x6_1 < (a0.size : Int)
      · rw [if_pos c3] at H
        have c3b0 : decide (x6_1 < (a0.size : Int)) = true := decide_eq_true c3
        clear c3
        by_cases c4 : 0 ≤ x6_1
        · rw [if_pos c4] at H
          have c4b0 : decide (0 ≤ x6_1) = true := decide_eq_true c4
          clear c4
          by_cases c6 : (bt a0 x6_1) = 47
          · rw [if_pos c6] at H
            have c6b0 : ((bt a0 x6_1) == 47) = true := beq_iff_eq.mpr c6
            have c6b1 : ((bt a0 x6_1) != 47) = false := bne_eq_false_iff_eq.mpr c6
            clear c6
            by_cases c7 : x6_1 = 0
            · rw [if_pos c7] at H
              have c7b0 : (x6_1 == 0) = true := beq_iff_eq.mpr c7
              have c7b1 : (x6_1 != 0) = false := bne_eq_false_iff_eq.mpr c7
              clear c7
              have H' := Aside0.mk H
              clear H
              have p5 : 0 ≤ (x6_1 : Int) := of_decide_eq_true (by first | (with_reducible assumption) | assumption)
              have q5 : x6_1 < (a0.size : Int) := of_decide_eq_true (by first | (with_reducible assumption) | assumption)
              have hx5 := bt_at a0 x6_1
              replace p5 := eq_true p5
              replace q5 := eq_true q5
              go_wp2
              go_roundg k1
              case measure => have := HK1.out; omega
              case rel => exact ⟨(x6_1), (wrap64 (x6_1 + 1)), (by first | rfl | (simp; done) | (simp [*]; done)), (by first | rfl | (simp; done) | (simp [*]; done)), H', ⟨by have := HK1.out; omega⟩, by repeat (first | exact Drawn0.refl _ | apply Drawn0.step)⟩
            · rw [if_neg c7] at H
              have c7b0 : (x6_1 == 0) = false := beq_eq_false_iff_ne.mpr c7
              have c7b1 : (x6_1 != 0) = true := bne_iff_ne.mpr c7
              obtain ⟨ji8, hji8⟩ : ∃ j_ : Int, (wrap64 (x6_1 - 1)) = j_ := ⟨_, rfl⟩
              replace H : (if 0 ≤ (ji8) then (if (ji8) < (a0.size : Int) then (if (bt a0 (ji8)) = 92 then (spec_GlobLast.l0 k1 a0 a1 x5_1 (wrap64 (x6_1 + 1))) else (spec_GlobLast.l0 k1 a0 a1 x6_1 (wrap64 (x6_1 + 1)))) else (none)) else (none)) = some r := by first | (rw [hji8] at H; exact H) | (simp only [hji8] at H ⊢; exact H)
              have hji8w : (IntKind.i64.wrap (x6_1 - 1)) = ji8 := (i64_w _).trans hji8
              by_cases c9 : 0 ≤ (ji8)
              · rw [if_pos c9] at H
                have c9b0 : decide (0 ≤ (ji8)) = true := decide_eq_true c9
                clear c9
                by_cases c10 : (ji8) < (a0.size : Int)
                · rw [if_pos c10] at H
                  have c10b0 : decide ((ji8) < (a0.size : Int)) = true := decide_eq_true c10
                  clear c10
                  by_cases c12 : (bt a0 (ji8)) = 92
                  · rw [if_pos c12] at H
                    have c12b0 : ((bt a0 (ji8)) == 92) = true := beq_iff_eq.mpr c12
                    have c12b1 : ((bt a0 (ji8)) != 92) = false := bne_eq_false_iff_eq.mpr c12
                    clear c12
                    have H' := Aside0.mk H
                    clear H
                    have p5 : 0 ≤ (x6_1 : Int) := of_decide_eq_true (by first | (with_reducible assumption) | assumption)
                    have q5 : x6_1 < (a0.size : Int) := of_decide_eq_true (by first | (with_reducible assumption) | assumption)
                    have hx5 := bt_at a0 x6_1
                    replace p5 := eq_true p5
                    replace q5 := eq_true q5
                    have p11 : 0 ≤ ((ji8) : Int) := of_decide_eq_true (by first | (with_reducible assumption) | assumption)
                    have q11 : (ji8) < (a0.size : Int) := of_decide_eq_true (by first | (with_reducible assumption) | assumption)
                    have hx11 := bt_at a0 (ji8)
                    replace p11 := eq_true p11
                    replace q11 := eq_true q11
                    go_wp2
                    go_roundg k1
                    case measure => have := HK1.out; omega
                    case rel => exact ⟨(x5_1), (wrap64 (x6_1 + 1)), (by first | rfl | (simp; done) | (simp [*]; done)), (by first | rfl | (simp; done) | (simp [*]; done)), H', ⟨by have := HK1.out; omega⟩, by repeat (first | exact Drawn0.refl _ | apply Drawn0.step)⟩
                  · rw [if_neg c12] at H
                    have c12b0 : ((bt a0 (ji8)) == 92) = false := beq_eq_false_iff_ne.mpr c12
                    have c12b1 : ((bt a0 (ji8)) != 92) = true := bne_iff_ne.mpr c12
                    have H' := Aside0.mk H
                    clear H
                    have p5 : 0 ≤ (x6_1 : Int) := of_decide_eq_true (by first | (with_reducible assumption) | assumption)
                    have q5 : x6_1 < (a0.size : Int) := of_decide_eq_true (by first | (with_reducible assumption) | assumption)
                    have hx5 := bt_at a0 x6_1
                    replace p5 := eq_true p5
                    replace q5 := eq_true q5
                    have p11 : 0 ≤ ((ji8) : Int) := of_decide_eq_true (by first | (with_reducible assumption) | assumption)
                    have q11 : (ji8) < (a0.size : Int) := of_decide_eq_true (by first | (with_reducible assumption) | assumption)
                    have hx11 := bt_at a0 (ji8)
                    replace p11 := eq_true p11
                    replace q11 := eq_true q11
                    go_wp2
                    go_roundg k1
                    case measure => have := HK1.out; omega
                    case rel => exact ⟨(x6_1), (wrap64 (x6_1 + 1)), (by first | rfl | (simp; done) | (simp [*]; done)), (by first | rfl | (simp; done) | (simp [*]; done)), H', ⟨by have := HK1.out; omega⟩, by repeat (first | exact Drawn0.refl _ | apply Drawn0.step)⟩
                · rw [if_neg c10] at H
                  exact absurd H (by simp)
              · rw [if_neg c9] at H
                exact absurd H (by simp)
          · rw [if_neg c6] at H
            have c6b0 : ((bt a0 x6_1) == 47) = false := beq_eq_false_iff_ne.mpr c6
            have c6b1 : ((bt a0 x6_1) != 47) = true := bne_iff_ne.mpr c6
            by_cases c13 : a1 = true
            · subst c13
              have H1 : (if (bt a0 x6_1) = 125 then (if x6_1 = 0 then (spec_GlobLast.l0 k1 a0 true x6_1 (wrap64 (x6_1 + 1))) else (if 0 ≤ (wrap64 (x6_1 - 1)) then (if (wrap64 (x6_1 - 1)) < (a0.size : Int) then (if (bt a0 (wrap64 (x6_1 - 1))) = 92 then (spec_GlobLast.l0 k1 a0 true x5_1 (wrap64 (x6_1 + 1))) else (spec_GlobLast.l0 k1 a0 true x6_1 (wrap64 (x6_1 + 1)))) else (none)) else (none))) else (spec_GlobLast.l0 k1 a0 true x5_1 (wrap64 (x6_1 + 1)))) = some r := by rw [if_pos rfl] at H; exact H
              clear H
              have H := H1
              clear H1
              by_cases c15 : (bt a0 x6_1) = 125
              · rw [if_pos c15] at H
                have c15b0 : ((bt a0 x6_1) == 125) = true := beq_iff_eq.mpr c15
                have c15b1 : ((bt a0 x6_1) != 125) = false := bne_eq_false_iff_eq.mpr c15
                clear c15
                by_cases c16 : x6_1 = 0
                · rw [if_pos c16] at H
                  have c16b0 : (x6_1 == 0) = true := beq_iff_eq.mpr c16
                  have c16b1 : (x6_1 != 0) = false := bne_eq_false_iff_eq.mpr c16
                  clear c16
                  have H' := Aside0.mk H
                  clear H
                  have p5 : 0 ≤ (x6_1 : Int) := of_decide_eq_true (by first | (with_reducible assumption) | assumption)
                  have q5 : x6_1 < (a0.size : Int) := of_decide_eq_true (by first | (with_reducible assumption) | assumption)
                  have hx5 := bt_at a0 x6_1
                  replace p5 := eq_true p5
                  replace q5 := eq_true q5
                  have p14 : 0 ≤ (x6_1 : Int) := of_decide_eq_true (by first | (with_reducible assumption) | assumption)
                  have q14 : x6_1 < (a0.size : Int) := of_decide_eq_true (by first | (with_reducible assumption) | assumption)
                  have hx14 := bt_at a0 x6_1
                  replace p14 := eq_true p14
                  replace q14 := eq_true q14
                  go_wp2
                  go_roundg k1
                  case measure => have := HK1.out; omega
                  case rel => exact ⟨(x6_1), (wrap64 (x6_1 + 1)), (by first | rfl | (simp; done) | (simp [*]; done)), (by first | rfl | (simp; done) | (simp [*]; done)), H', ⟨by have := HK1.out; omega⟩, by repeat (first | exact Drawn0.refl _ | apply Drawn0.step)⟩
                · rw [if_neg c16] at H
                  have c16b0 : (x6_1 == 0) = false := beq_eq_false_iff_ne.mpr c16
                  have c16b1 : (x6_1 != 0) = true := bne_iff_ne.mpr c16
                  obtain ⟨ji17, hji17⟩ : ∃ j_ : Int, (wrap64 (x6_1 - 1)) = j_ := ⟨_, rfl⟩
                  replace H : (if 0 ≤ (ji17) then (if (ji17) < (a0.size : Int) then (if (bt a0 (ji17)) = 92 then (spec_GlobLast.l0 k1 a0 true x5_1 (wrap64 (x6_1 + 1))) else (spec_GlobLast.l0 k1 a0 true x6_1 (wrap64 (x6_1 + 1)))) else (none)) else (none)) = some r := by first | (rw [hji17] at H; exact H) | (simp only [hji17] at H ⊢; exact H)
                  have hji17w : (IntKind.i64.wrap (x6_1 - 1)) = ji17 := (i64_w _).trans hji17
                  by_cases c18 : 0 ≤ (ji17)
                  · rw [if_pos c18] at H
                    have c18b0 : decide (0 ≤ (ji17)) = true := decide_eq_true c18
                    clear c18
                    by_cases c19 : (ji17) < (a0.size : Int)
                    · rw [if_pos c19] at H
                      have c19b0 : decide ((ji17) < (a0.size : Int)) = true := decide_eq_true c19
                      clear c19
                      by_cases c21 : (bt a0 (ji17)) = 92
                      · rw [if_pos c21] at H
                        have c21b0 : ((bt a0 (ji17)) == 92) = true := beq_iff_eq.mpr c21
                        have c21b1 : ((bt a0 (ji17)) != 92) = false := bne_eq_false_iff_eq.mpr c21
                        clear c21
                        have H' := Aside0.mk H
                        clear H
                        have p5 : 0 ≤ (x6_1 : Int) := of_decide_eq_true (by first | (with_reducible assumption) | assumption)
                        have q5 : x6_1 < (a0.size : Int) := of_decide_eq_true (by first | (with_reducible assumption) | assumption)
                        have hx5 := bt_at a0 x6_1
                        replace p5 := eq_true p5
                        replace q5 := eq_true q5
                        have p14 : 0 ≤ (x6_1 : Int) := of_decide_eq_true (by first | (with_reducible assumption) | assumption)
                        have q14 : x6_1 < (a0.size : Int) := of_decide_eq_true (by first | (with_reducible assumption) | assumption)
                        have hx14 := bt_at a0 x6_1
                        replace p14 := eq_true p14
                        replace q14 := eq_true q14
                        have p20 : 0 ≤ ((ji17) : Int) := of_decide_eq_true (by first | (with_reducible assumption) | assumption)
                        have q20 : (ji17) < (a0.size : Int) := of_decide_eq_true (by first | (with_reducible assumption) | assumption)
                        have hx20 := bt_at a0 (ji17)
                        replace p20 := eq_true p20
                        replace q20 := eq_true q20
                        go_wp2
                        go_roundg k1
                        case measure => have := HK1.out; omega
                        case rel => exact ⟨(x5_1), (wrap64 (x6_1 + 1)), (by first | rfl | (simp; done) | (simp [*]; done)), (by first | rfl | (simp; done) | (simp [*]; done)), H', ⟨by have := HK1.out; omega⟩, by repeat (first | exact Drawn0.refl _ | apply Drawn0.step)⟩
                      · rw [if_neg c21] at H
                        have c21b0 : ((bt a0 (ji17)) == 92) = false := beq_eq_false_iff_ne.mpr c21
                        have c21b1 : ((bt a0 (ji17)) != 92) = true := bne_iff_ne.mpr c21
                        have H' := Aside0.mk H
                        clear H
                        have p5 : 0 ≤ (x6_1 : Int) := of_decide_eq_true (by first | (with_reducible assumption) | assumption)
                        have q5 : x6_1 < (a0.size : Int) := of_decide_eq_true (by first | (with_reducible assumption) | assumption)
                        have hx5 := bt_at a0 x6_1
                        replace p5 := eq_true p5
                        replace q5 := eq_true q5
                        have p14 : 0 ≤ (x6_1 : Int) := of_decide_eq_true (by first | (with_reducible assumption) | assumption)
                        have q14 : x6_1 < (a0.size : Int) := of_decide_eq_true (by first | (with_reducible assumption) | assumption)
                        have hx14 := bt_at a0 x6_1
                        replace p14 := eq_true p14
                        replace q14 := eq_true q14
                        have p20 : 0 ≤ ((ji17) : Int) := of_decide_eq_true (by first | (with_reducible assumption) | assumption)
                        have q20 : (ji17) < (a0.size : Int) := of_decide_eq_true (by first | (with_reducible assumption) | assumption)
                        have hx20 := bt_at a0 (ji17)
                        replace p20 := eq_true p20
                        replace q20 := eq_true q20
                        go_wp2
                        go_roundg k1
                        case measure => have := HK1.out; omega
                        case rel => exact ⟨(x6_1), (wrap64 (x6_1 + 1)), (by first | rfl | (simp; done) | (simp [*]; done)), (by first | rfl | (simp; done) | (simp [*]; done)), H', ⟨by have := HK1.out; omega⟩, by repeat (first | exact Drawn0.refl _ | apply Drawn0.step)⟩
                    · rw [if_neg c19] at H
                      exact absurd H (by simp)
                  · rw [if_neg c18] at H
                    exact absurd H (by simp)
              · rw [if_neg c15] at H
                have c15b0 : ((bt a0 x6_1) == 125) = false := beq_eq_false_iff_ne.mpr c15
                have c15b1 : ((bt a0 x6_1) != 125) = true := bne_iff_ne.mpr c15
                have H' := Aside0.mk H
                clear H
                have p5 : 0 ≤ (x6_1 : Int) := of_decide_eq_true (by first | (with_reducible assumption) | assumption)
                have q5 : x6_1 < (a0.size : Int) := of_decide_eq_true (by first | (with_reducible assumption) | assumption)
                have hx5 := bt_at a0 x6_1
                replace p5 := eq_true p5
                replace q5 := eq_true q5
                have p14 : 0 ≤ (x6_1 : Int) := of_decide_eq_true (by first | (with_reducible assumption) | assumption)
                have q14 : x6_1 < (a0.size : Int) := of_decide_eq_true (by first | (with_reducible assumption) | assumption)
                have hx14 := bt_at a0 x6_1
                replace p14 := eq_true p14
                replace q14 := eq_true q14
                go_wp2
                go_roundg k1
                case measure => have := HK1.out; omega
                case rel => exact ⟨(x5_1), (wrap64 (x6_1 + 1)), (by first | rfl | (simp; done) | (simp [*]; done)), (by first | rfl | (simp; done) | (simp [*]; done)), H', ⟨by have := HK1.out; omega⟩, by repeat (first | exact Drawn0.refl _ | apply Drawn0.step)⟩
            · replace c13 := Bool.eq_false_iff.mpr c13
              subst c13
              have H1 : (spec_GlobLast.l0 k1 a0 false x5_1 (wrap64 (x6_1 + 1))) = some r := by rw [if_neg (show ¬ (false = true) by decide)] at H; exact H
              clear H
              have H := H1
              clear H1
              have H' := Aside0.mk H
              clear H
              have p5 : 0 ≤ (x6_1 : Int) := of_decide_eq_true (by first | (with_reducible assumption) | assumption)
              have q5 : x6_1 < (a0.size : Int) := of_decide_eq_true (by first | (with_reducible assumption) | assumption)
              have hx5 := bt_at a0 x6_1
              replace p5 := eq_true p5
              replace q5 := eq_true q5
              go_wp2
              go_roundg k1
              case measure => have := HK1.out; omega
              case rel => exact ⟨(x5_1), (wrap64 (x6_1 + 1)), (by first | rfl | (simp; done) | (simp [*]; done)), (by first | rfl | (simp; done) | (simp [*]; done)), H', ⟨by have := HK1.out; omega⟩, by repeat (first | exact Drawn0.refl _ | apply Drawn0.step)⟩
        · rw [if_neg c4] at H
          exact absurd H (by simp)
      · rw [if_neg c3] at H
        have c3b0 : decide (x6_1 < (a0.size : Int)) = false := decide_eq_false c3
        clear c3
        obtain rfl := Option.some.inj H
        go_wp2
        go_ret
        exact ⟨by first | rfl | (simp; done) | (simp [*]; done), by repeat (first | exact Drawn0.refl _ | apply Drawn0.step)⟩

/-! ### doublestar_lastIndexSlashOrAlt: function 40 -/
def doublestar_lastIndexSlashOrAlt.l0 : Nat → ByteArray → Int → Option (Int)
  | 0, _, _ => none
  | k + 1, x0, x3 => if x3 ≥ 0 then (if 0 ≤ x3 then (if x3 < (x0.size : Int) then (if (bt x0 x3) = 47 then (if x3 = 0 then (some x3) else (if 0 ≤ (wrap64 (x3 - 1)) then (if (wrap64 (x3 - 1)) < (x0.size : Int) then (if (bt x0 (wrap64 (x3 - 1))) = 92 then (doublestar_lastIndexSlashOrAlt.l0 k x0 (wrap64 (x3 - 1))) else (some x3)) else (none)) else (none))) else (if (bt x0 x3) = 125 then (if x3 = 0 then (some x3) else (if 0 ≤ (wrap64 (x3 - 1)) then (if (wrap64 (x3 - 1)) < (x0.size : Int) then (if (bt x0 (wrap64 (x3 - 1))) = 92 then (doublestar_lastIndexSlashOrAlt.l0 k x0 (wrap64 (x3 - 1))) else (some x3)) else (none)) else (none))) else (doublestar_lastIndexSlashOrAlt.l0 k x0 (wrap64 (x3 - 1))))) else (none)) else (none)) else (some (-1))
def doublestar_lastIndexSlashOrAlt.f (k : Nat) (a0 : ByteArray) : Option (Int) := doublestar_lastIndexSlashOrAlt.l0 k a0 (wrap64 ((a0.size : Int) - 1))
theorem doublestar_lastIndexSlashOrAlt.mono_l : ∀ k, (∀ y0 y1, LeO (doublestar_lastIndexSlashOrAlt.l0 k y0 y1) (doublestar_lastIndexSlashOrAlt.l0 (k + 1) y0 y1))
  | 0 => fun _ _ r h => by simp [doublestar_lastIndexSlashOrAlt.l0] at h
  | k + 1 => by
    have ih0 := doublestar_lastIndexSlashOrAlt.mono_l k
    · intro y0 y1
      unfold doublestar_lastIndexSlashOrAlt.l0
      repeat' first
      | (with_reducible exact ih0 _ _)
      | (with_reducible exact LeO.refl _)
      | (with_reducible exact LeO.none _)
      | (with_reducible refine LeO.ite ?_ ?_)
      | (with_reducible refine LeO.bind ?_ (fun _ => ?_))
      | exact ih0 _ _
      | exact LeO.none _
      | refine LeO.ite ?_ ?_
      | refine LeO.bind ?_ (fun _ => ?_)
theorem doublestar_lastIndexSlashOrAlt.mono : ∀ a0 k, LeO (doublestar_lastIndexSlashOrAlt.f k a0) (doublestar_lastIndexSlashOrAlt.f (k + 1) a0) := by
  intro a0 k
  have ih0 := doublestar_lastIndexSlashOrAlt.mono_l k
  unfold doublestar_lastIndexSlashOrAlt.f
  repeat' first
      | (with_reducible exact ih0 _ _)
      | (with_reducible exact LeO.refl _)
      | (with_reducible exact LeO.none _)
      | (with_reducible refine LeO.ite ?_ ?_)
      | (with_reducible refine LeO.bind ?_ (fun _ => ?_))
      | exact ih0 _ _
      | exact LeO.none _
      | refine LeO.ite ?_ ?_
      | refine LeO.bind ?_ (fun _ => ?_)
set_option maxHeartbeats 8000000 in
set_option maxRecDepth 100000 in
theorem doublestar_lastIndexSlashOrAlt.calls (k : Nat) (a0 : ByteArray) (r : Int) (w : World) (h : doublestar_lastIndexSlashOrAlt.f k a0 = some r) :
    Calls Try.prog 40 #[.string a0] w fun e w' => e = .returned (.int .i64 r) ∧ Drawn0 w w' := by
  have H : (doublestar_lastIndexSlashOrAlt.l0 k a0 (wrap64 ((a0.size : Int) - 1))) = some r := h
  clear h
  have H' := Aside0.mk H
  clear H
  go_enter Try.func40, Try.ntmps40
  go_wp2
  go_loopg [3] k (fun kq v3 w' => ∃ (x3_1 : Int), v3 = .int .i64 x3_1 ∧ Aside0 (doublestar_lastIndexSlashOrAlt.l0 kq a0 x3_1 = some r) ∧ Aside0 (kq ≤ k) ∧ Drawn0 w w')
  case atStart => exact ⟨(wrap64 ((a0.size : Int) - 1)), (by first | rfl | (simp; done) | (simp [*]; done)), H', ⟨Nat.le_refl _⟩, by repeat (first | exact Drawn0.refl _ | apply Drawn0.step)⟩
  case round =>
    clear H'
    obtain ⟨x3_1, rfl, HA, HK1, ⟨m1, rfl⟩⟩ := hrel
    cases gk with
    | zero => exact absurd HA.out (by simp [doublestar_lastIndexSlashOrAlt.l0])
    | succ k1 =>
      have H := HA.out
      clear HA
      simp only [doublestar_lastIndexSlashOrAlt.l0] at H
      by_cases c2 : x3_1 ≥ 0
      · rw [if_pos c2] at H
        have c2b0 : decide (0 ≤ x3_1) = true := decide_eq_true c2
        clear c2
        by_cases c3 : 0 ≤ x3_1
        · rw [if_pos c3] at H
          have c3b0 : decide (0 ≤ x3_1) = true := decide_eq_true c3
          clear c3
          by_cases c4 : x3_1 < (a0.size : Int)
          · rw [if_pos c4] at H
            have c4b0 : decide (x3_1 < (a0.size : Int)) = true := decide_eq_true c4
            clear c4
            by_cases c6 : (bt a0 x3_1) = 47
            · rw [if_pos c6] at H
              have c6b0 : ((bt a0 x3_1) == 47) = true := beq_iff_eq.mpr c6
              have c6b1 : ((bt a0 x3_1) != 47) = false := bne_eq_false_iff_eq.mpr c6
              clear c6
              by_cases c7 : x3_1 = 0
              · rw [if_pos c7] at H
                have c7b0 : (x3_1 == 0) = true := beq_iff_eq.mpr c7
                have c7b1 : (x3_1 != 0) = false := bne_eq_false_iff_eq.mpr c7
                clear c7
                obtain rfl := Option.some.inj H
                have p5 : 0 ≤ (x3_1 : Int) := of_decide_eq_true (by first | (with_reducible assumption) | assumption)
                have q5 : x3_1 < (a0.size : Int) := of_decide_eq_true (by first | (with_reducible assumption) | assumption)
                have hx5 := bt_at a0 x3_1
                replace p5 := eq_true p5
                replace q5 := eq_true q5
                go_wp2
                go_ret
                exact ⟨by first | rfl | (simp; done) | (simp [*]; done), by repeat (first | exact Drawn0.refl _ | apply Drawn0.step)⟩
              · rw [if_neg c7] at H
                have c7b0 : (x3_1 == 0) = false := beq_eq_false_iff_ne.mpr c7
                have c7b1 : (x3_1 != 0) = true := bne_iff_ne.mpr c7
                obtain ⟨ji8, hji8⟩ : ∃ j_ : Int, (wrap64 (x3_1 - 1)) = j_ := ⟨_, rfl⟩
                replace H : (if 0 ≤ (ji8) then (if (ji8) < (a0.size : Int) then (if (bt a0 (ji8)) = 92 then (doublestar_lastIndexSlashOrAlt.l0 k1 a0 ji8) else (some x3_1)) else (none)) else (none)) = some r := by first | (rw [hji8] at H; exact H) | (simp only [hji8] at H ⊢; exact H)
                have hji8w : (IntKind.i64.wrap (x3_1 - 1)) = ji8 := (i64_w _).trans hji8
                by_cases c9 : 0 ≤ (ji8)
                · rw [if_pos c9] at H
                  have c9b0 : decide (0 ≤ (ji8)) = true := decide_eq_true c9
                  clear c9
                  by_cases c10 : (ji8) < (a0.size : Int)
                  · rw [if_pos c10] at H
                    have c10b0 : decide ((ji8) < (a0.size : Int)) = true := decide_eq_true c10
                    clear c10
                    by_cases c12 : (bt a0 (ji8)) = 92
                    · rw [if_pos c12] at H
                      have c12b0 : ((bt a0 (ji8)) == 92) = true := beq_iff_eq.mpr c12
                      have c12b1 : ((bt a0 (ji8)) != 92) = false := bne_eq_false_iff_eq.mpr c12
                      clear c12
                      have H' := Aside0.mk H
                      clear H
                      have p5 : 0 ≤ (x3_1 : Int) := of_decide_eq_true (by first | (with_reducible assumption) | assumption)
                      have q5 : x3_1 < (a0.size : Int) := of_decide_eq_true (by first | (with_reducible assumption) | assumption)
                      have hx5 := bt_at a0 x3_1
                      replace p5 := eq_true p5
                      replace q5 := eq_true q5
                      have p11 : 0 ≤ ((ji8) : Int) := of_decide_eq_true (by first | (with_reducible assumption) | assumption)
                      have q11 : (ji8) < (a0.size : Int) := of_decide_eq_true (by first | (with_reducible assumption) | assumption)
                      have hx11 := bt_at a0 (ji8)
                      replace p11 := eq_true p11
                      replace q11 := eq_true q11
                      go_wp2
                      go_roundg k1
                      case measure => have := HK1.out; omega
                      case rel => exact ⟨(ji8), (by first | rfl | (simp; done) | (simp only [← hji8] <;> (first | rfl | simp)) | (simp [*]; done)), H', ⟨by have := HK1.out; omega⟩, by repeat (first | exact Drawn0.refl _ | apply Drawn0.step)⟩
                    · rw [if_neg c12] at H
                      have c12b0 : ((bt a0 (ji8)) == 92) = false := beq_eq_false_iff_ne.mpr c12
                      have c12b1 : ((bt a0 (ji8)) != 92) = true := bne_iff_ne.mpr c12
                      obtain rfl := Option.some.inj H
                      have p5 : 0 ≤ (x3_1 : Int) := of_decide_eq_true (by first | (with_reducible assumption) | assumption)
                      have q5 : x3_1 < (a0.size : Int) := of_decide_eq_true (by first | (with_reducible assumption) | assumption)
                      have hx5 := bt_at a0 x3_1
                      replace p5 := eq_true p5
                      replace q5 := eq_true q5
                      have p11 : 0 ≤ ((ji8) : Int) := of_decide_eq_true (by first | (with_reducible assumption) | assumption)
                      have q11 : (ji8) < (a0.size : Int) := of_decide_eq_true (by first | (with_reducible assumption) | assumption)
                      have hx11 := bt_at a0 (ji8)
                      replace p11 := eq_true p11
                      replace q11 := eq_true q11
                      go_wp2
                      go_ret
                      exact ⟨by first | rfl | (simp; done) | (simp only [← hji8] <;> (first | rfl | simp)) | (simp [*]; done), by repeat (first | exact Drawn0.refl _ | apply Drawn0.step)⟩
                  · rw [if_neg c10] at H
                    exact absurd H (by simp)
                · rw [if_neg c9] at H
                  exact absurd H (by simp)
            · rw [if_neg c6] at H
              have c6b0 : ((bt a0 x3_1) == 47) = false := beq_eq_false_iff_ne.mpr c6
              have c6b1 : ((bt a0 x3_1) != 47) = true := bne_iff_ne.mpr c6
              by_cases c14 : (bt a0 x3_1) = 125
              · rw [if_pos c14] at H
                have c14b0 : ((bt a0 x3_1) == 125) = true := beq_iff_eq.mpr c14
                have c14b1 : ((bt a0 x3_1) != 125) = false := bne_eq_false_iff_eq.mpr c14
                clear c14
                by_cases c15 : x3_1 = 0
                · rw [if_pos c15] at H
                  have c15b0 : (x3_1 == 0) = true := beq_iff_eq.mpr c15
                  have c15b1 : (x3_1 != 0) = false := bne_eq_false_iff_eq.mpr c15
                  clear c15
                  obtain rfl := Option.some.inj H
                  have p5 : 0 ≤ (x3_1 : Int) := of_decide_eq_true (by first | (with_reducible assumption) | assumption)
                  have q5 : x3_1 < (a0.size : Int) := of_decide_eq_true (by first | (with_reducible assumption) | assumption)
                  have hx5 := bt_at a0 x3_1
                  replace p5 := eq_true p5
                  replace q5 := eq_true q5
                  have p13 : 0 ≤ (x3_1 : Int) := of_decide_eq_true (by first | (with_reducible assumption) | assumption)
                  have q13 : x3_1 < (a0.size : Int) := of_decide_eq_true (by first | (with_reducible assumption) | assumption)
                  have hx13 := bt_at a0 x3_1
                  replace p13 := eq_true p13
                  replace q13 := eq_true q13
                  go_wp2
                  go_ret
                  exact ⟨by first | rfl | (simp; done) | (simp [*]; done), by repeat (first | exact Drawn0.refl _ | apply Drawn0.step)⟩
                · rw [if_neg c15] at H
                  have c15b0 : (x3_1 == 0) = false := beq_eq_false_iff_ne.mpr c15
                  have c15b1 : (x3_1 != 0) = true := bne_iff_ne.mpr c15
                  obtain ⟨ji16, hji16⟩ : ∃ j_ : Int, (wrap64 (x3_1 - 1)) = j_ := ⟨_, rfl⟩
                  replace H : (if 0 ≤ (ji16) then (if (ji16) < (a0.size : Int) then (if (bt a0 (ji16)) = 92 then (doublestar_lastIndexSlashOrAlt.l0 k1 a0 ji16) else (some x3_1)) else (none)) else (none)) = some r := by first | (rw [hji16] at H; exact H) | (simp only [hji16] at H ⊢; exact H)
                  have hji16w : (IntKind.i64.wrap (x3_1 - 1)) = ji16 := (i64_w _).trans hji16
                  by_cases c17 : 0 ≤ (ji16)
                  · rw [if_pos c17] at H
                    have c17b0 : decide (0 ≤ (ji16)) = true := decide_eq_true c17
                    clear c17
                    by_cases c18 : (ji16) < (a0.size : Int)
                    · rw [if_pos c18] at H
                      have c18b0 : decide ((ji16) < (a0.size : Int)) = true := decide_eq_true c18
                      clear c18
                      by_cases c20 : (bt a0 (ji16)) = 92
                      · rw [if_pos c20] at H
                        have c20b0 : ((bt a0 (ji16)) == 92) = true := beq_iff_eq.mpr c20
                        have c20b1 : ((bt a0 (ji16)) != 92) = false := bne_eq_false_iff_eq.mpr c20
                        clear c20
                        have H' := Aside0.mk H
                        clear H
                        have p5 : 0 ≤ (x3_1 : Int) := of_decide_eq_true (by first | (with_reducible assumption) | assumption)
                        have q5 : x3_1 < (a0.size : Int) := of_decide_eq_true (by first | (with_reducible assumption) | assumption)
                        have hx5 := bt_at a0 x3_1
                        replace p5 := eq_true p5
                        replace q5 := eq_true q5
                        have p13 : 0 ≤ (x3_1 : Int) := of_decide_eq_true (by first | (with_reducible assumption) | assumption)
                        have q13 : x3_1 < (a0.size : Int) := of_decide_eq_true (by first | (with_reducible assumption) | assumption)
                        have hx13 := bt_at a0 x3_1
                        replace p13 := eq_true p13
                        replace q13 := eq_true q13
                        have p19 : 0 ≤ ((ji16) : Int) := of_decide_eq_true (by first | (with_reducible assumption) | assumption)
                        have q19 : (ji16) < (a0.size : Int) := of_decide_eq_true (by first | (with_reducible assumption) | assumption)
                        have hx19 := bt_at a0 (ji16)
                        replace p19 := eq_true p19
                        replace q19 := eq_true q19
                        go_wp2
                        go_roundg k1
                        case measure => have := HK1.out; omega
                        case rel => exact ⟨(ji16), (by first | rfl | (simp; done) | (simp only [← hji16] <;> (first | rfl | simp)) | (simp [*]; done)), H', ⟨by have := HK1.out; omega⟩, by repeat (first | exact Drawn0.refl _ | apply Drawn0.step)⟩
                      · rw [if_neg c20] at H
                        have c20b0 : ((bt a0 (ji16)) == 92) = false := beq_eq_false_iff_ne.mpr c20
                        have c20b1 : ((bt a0 (ji16)) != 92) = true := bne_iff_ne.mpr c20
                        obtain rfl := Option.some.inj H
                        have p5 : 0 ≤ (x3_1 : Int) := of_decide_eq_true (by first | (with_reducible assumption) | assumption)
                        have q5 : x3_1 < (a0.size : Int) := of_decide_eq_true (by first | (with_reducible assumption) | assumption)
                        have hx5 := bt_at a0 x3_1
                        replace p5 := eq_true p5
                        replace q5 := eq_true q5
                        have p13 : 0 ≤ (x3_1 : Int) := of_decide_eq_true (by first | (with_reducible assumption) | assumption)
                        have q13 : x3_1 < (a0.size : Int) := of_decide_eq_true (by first | (with_reducible assumption) | assumption)
                        have hx13 := bt_at a0 x3_1
                        replace p13 := eq_true p13
                        replace q13 := eq_true q13
                        have p19 : 0 ≤ ((ji16) : Int) := of_decide_eq_true (by first | (with_reducible assumption) | assumption)
                        have q19 : (ji16) < (a0.size : Int) := of_decide_eq_true (by first | (with_reducible assumption) | assumption)
                        have hx19 := bt_at a0 (ji16)
                        replace p19 := eq_true p19
                        replace q19 := eq_true q19
                        go_wp2
                        go_ret
                        exact ⟨by first | rfl | (simp; done) | (simp only [← hji16] <;> (first | rfl | simp)) | (simp [*]; done), by repeat (first | exact Drawn0.refl _ | apply Drawn0.step)⟩
                    · rw [if_neg c18] at H
                      exact absurd H (by simp)
                  · rw [if_neg c17] at H
                    exact absurd H (by simp)
              · rw [if_neg c14] at H
                have c14b0 : ((bt a0 x3_1) == 125) = false := beq_eq_false_iff_ne.mpr c14
                have c14b1 : ((bt a0 x3_1) != 125) = true := bne_iff_ne.mpr c14
                have H' := Aside0.mk H
                clear H
                have p5 : 0 ≤ (x3_1 : Int) := of_decide_eq_true (by first | (with_reducible assumption) | assumption)
                have q5 : x3_1 < (a0.size : Int) := of_decide_eq_true (by first | (with_reducible assumption) | assumption)
                have hx5 := bt_at a0 x3_1
                replace p5 := eq_true p5
                replace q5 := eq_true q5
                have p13 : 0 ≤ (x3_1 : Int) := of_decide_eq_true (by first | (with_reducible assumption) | assumption)
                have q13 : x3_1 < (a0.size : Int) := of_decide_eq_true (by first | (with_reducible assumption) | assumption)
                have hx13 := bt_at a0 x3_1
                replace p13 := eq_true p13
                replace q13 := eq_true q13
                go_wp2
                go_roundg k1
                case measure => have := HK1.out; omega
                case rel => exact ⟨(wrap64 (x3_1 - 1)), (by first | rfl | (simp; done) | (simp [*]; done)), H', ⟨by have := HK1.out; omega⟩, by repeat (first | exact Drawn0.refl _ | apply Drawn0.step)⟩
          · rw [if_neg c4] at H
            exact absurd H (by simp)
        · rw [if_neg c3] at H
          exact absurd H (by simp)
      · rw [if_neg c2] at H
        have c2b0 : decide (0 ≤ x3_1) = false := decide_eq_false c2
        clear c2
        obtain rfl := Option.some.inj H
        go_wp2
        go_ret
        exact ⟨by first | rfl | (simp; done) | (simp [*]; done), by repeat (first | exact Drawn0.refl _ | apply Drawn0.step)⟩

/-! ### doublestar_ZzLastSlashOrAlt: function 27 -/
def doublestar_ZzLastSlashOrAlt.f (k : Nat) (a0 : ByteArray) : Option (Int) := (doublestar_lastIndexSlashOrAlt.f k a0).bind fun t103 => (some t103)
theorem doublestar_ZzLastSlashOrAlt.mono : ∀ a0 k, LeO (doublestar_ZzLastSlashOrAlt.f k a0) (doublestar_ZzLastSlashOrAlt.f (k + 1) a0) := by
  intro a0 k
  unfold doublestar_ZzLastSlashOrAlt.f
  repeat' first
      | (with_reducible exact doublestar_lastIndexSlashOrAlt.mono _ _)
      | (with_reducible exact LeO.refl _)
      | (with_reducible exact LeO.none _)
      | (with_reducible refine LeO.ite ?_ ?_)
      | (with_reducible refine LeO.bind ?_ (fun _ => ?_))
      | exact doublestar_lastIndexSlashOrAlt.mono _ _
      | exact LeO.none _
      | refine LeO.ite ?_ ?_
      | refine LeO.bind ?_ (fun _ => ?_)
set_option maxHeartbeats 8000000 in
set_option maxRecDepth 100000 in
theorem doublestar_ZzLastSlashOrAlt.calls (k : Nat) (a0 : ByteArray) (r : Int) (w : World) (h : doublestar_ZzLastSlashOrAlt.f k a0 = some r) :
    Calls Try.prog 27 #[.string a0] w fun e w' => e = .returned (.int .i64 r) ∧ Drawn0 w w' := by
  have H : ((doublestar_lastIndexSlashOrAlt.f k a0).bind fun t103 => (some t103)) = some r := h
  clear h
  replace H := Option.bind_eq_some_iff.mp H
  obtain ⟨t103, A20, H⟩ := H
  replace H : (some t103) = some r := H
  have A2 := Aside0.mk A20
  clear A20
  obtain rfl := Option.some.inj H
  go_enter Try.func27, Try.ntmps27
  go_wp2_with (first | ((with_reducible refine gate_callee (f := 40) rfl ?_); refine goesL_ (some 4) rfl rfl Try.func40 (by kernel_rfl) rfl #[.string a0] rfl (by (try simp only [List.map_toArray, List.map_cons, List.map_nil]); first | done | rfl | (simp only [List.length_drop, List.length_take]; rfl)) ?_; (with_reducible refine (doublestar_lastIndexSlashOrAlt.calls k a0 t103 _ A2.out).mono ?_); rintro e w' ⟨rfl, ⟨nd, rfl⟩⟩; refine ⟨_, rfl, ?_⟩))
  go_ret
  exact ⟨by first | rfl | (simp; done) | (simp [*]; done), by repeat (first | exact Drawn0.refl _ | apply Drawn0.step)⟩

/-! ### impl_GlobLastSlashOrAlt: function 15 -/
def impl_GlobLastSlashOrAlt.f (k : Nat) (a0 : ByteArray) : Option (Int) := (doublestar_ZzLastSlashOrAlt.f k a0).bind fun t104 => (some t104)
theorem impl_GlobLastSlashOrAlt.mono : ∀ a0 k, LeO (impl_GlobLastSlashOrAlt.f k a0) (impl_GlobLastSlashOrAlt.f (k + 1) a0) := by
  intro a0 k
  unfold impl_GlobLastSlashOrAlt.f
  repeat' first
      | (with_reducible exact doublestar_ZzLastSlashOrAlt.mono _ _)
      | (with_reducible exact LeO.refl _)
      | (with_reducible exact LeO.none _)
      | (with_reducible refine LeO.ite ?_ ?_)
      | (with_reducible refine LeO.bind ?_ (fun _ => ?_))
      | exact doublestar_ZzLastSlashOrAlt.mono _ _
      | exact LeO.none _
      | refine LeO.ite ?_ ?_
      | refine LeO.bind ?_ (fun _ => ?_)
set_option maxHeartbeats 8000000 in
set_option maxRecDepth 100000 in
theorem impl_GlobLastSlashOrAlt.calls (k : Nat) (a0 : ByteArray) (r : Int) (w : World) (h : impl_GlobLastSlashOrAlt.f k a0 = some r) :
    Calls Try.prog 15 #[.string a0] w fun e w' => e = .returned (.int .i64 r) ∧ Drawn0 w w' := by
  have H : ((doublestar_ZzLastSlashOrAlt.f k a0).bind fun t104 => (some t104)) = some r := h
  clear h
  replace H := Option.bind_eq_some_iff.mp H
  obtain ⟨t104, A20, H⟩ := H
  replace H : (some t104) = some r := H
  have A2 := Aside0.mk A20
  clear A20
  obtain rfl := Option.some.inj H
  go_enter Try.func15, Try.ntmps15
  go_wp2_with (first | ((with_reducible refine gate_callee (f := 27) rfl ?_); refine goesL_ (some 4) rfl rfl Try.func27 (by kernel_rfl) rfl #[.string a0] rfl (by (try simp only [List.map_toArray, List.map_cons, List.map_nil]); first | done | rfl | (simp only [List.length_drop, List.length_take]; rfl)) ?_; (with_reducible refine (doublestar_ZzLastSlashOrAlt.calls k a0 t104 _ A2.out).mono ?_); rintro e w' ⟨rfl, ⟨nd, rfl⟩⟩; refine ⟨_, rfl, ?_⟩))
  go_ret
  exact ⟨by first | rfl | (simp; done) | (simp [*]; done), by repeat (first | exact Drawn0.refl _ | apply Drawn0.step)⟩

end Go.Proofs.Ytaljobijdbgohaa.PFnGlobLasts
