-- PRINTED BY print.sh 35421559b90ae4d0a3588c463048766b98c2df88dd9212a6774a882060cdf62d: not written by this session
import Derived.Test.YtaljobijdbgohaaPFnGlobClosingx0
namespace Go.Proofs.Ytaljobijdbgohaa.PFnGlobClosing
open Go.RowKit Go.Proofs.YtaljobijdbgohaaW.PrintWords Go.Proofs.YtaljobijdbgohaaW.PrintLast Go.Proofs.YtaljobijdbgohaaW.PrintMore
attribute [local go_sem] max2_int min2_int max_two min_two max_three min_three max_four min_four   -- for this text's walks alone
set_option linter.unusedVariables false
set_option linter.unusedSimpArgs false

/-! ### doublestar_indexNextAlt: function 46 -/
mutual
def doublestar_indexNextAlt.l0 : Nat → ByteArray → Bool → Int → Int → Int → Option (Int)
  | 0, _, _, _, _, _ => none
  | k + 1, x0, x1, x5, x6, x7 => if x7 < x6 then (if x1 = true then (if 0 ≤ x7 then (if x7 < (x0.size : Int) then (doublestar_indexNextAlt.j1 k x0 x1 x5 x6 x7 ((bt x0 x7) == 92)) else (none)) else (none)) else (doublestar_indexNextAlt.j1 k x0 x1 x5 x6 x7 false)) else (some (-1))
def doublestar_indexNextAlt.j1 : Nat → ByteArray → Bool → Int → Int → Int → Bool → Option (Int)
  | 0, _, _, _, _, _, _ => none
  | k + 1, x0, x1, x5, x6, x7, x21 => if x21 = true then (doublestar_indexNextAlt.l0 k x0 x1 x5 x6 (wrap64 ((wrap64 (x7 + 1)) + 1))) else (if 0 ≤ x7 then (if x7 < (x0.size : Int) then (if (bt x0 x7) = 91 then (doublestar_indexNextAlt.l1 k x0 x1 x5 x6 (wrap64 (x7 + 1))) else (if (bt x0 x7) = 123 then (doublestar_indexNextAlt.l0 k x0 x1 (wrap64 (x5 + 1)) x6 (wrap64 (x7 + 1))) else (if (bt x0 x7) = 125 then (doublestar_indexNextAlt.l0 k x0 x1 (wrap64 (x5 - 1)) x6 (wrap64 (x7 + 1))) else (if (bt x0 x7) = 44 then (if x5 = 1 then (some x7) else (doublestar_indexNextAlt.l0 k x0 x1 x5 x6 (wrap64 (x7 + 1)))) else (doublestar_indexNextAlt.l0 k x0 x1 x5 x6 (wrap64 (x7 + 1))))))) else (none)) else (none))
def doublestar_indexNextAlt.l1 : Nat → ByteArray → Bool → Int → Int → Int → Option (Int)
  | 0, _, _, _, _, _ => none
  | k + 1, x0, x1, x5, x6, x7 => if x7 < x6 then (if x1 = true then (if 0 ≤ x7 then (if x7 < (x0.size : Int) then (doublestar_indexNextAlt.j3 k x0 x1 x5 x6 x7 ((bt x0 x7) == 92)) else (none)) else (none)) else (doublestar_indexNextAlt.j3 k x0 x1 x5 x6 x7 false)) else (doublestar_indexNextAlt.l0 k x0 x1 x5 x6 (wrap64 (x7 + 1)))
def doublestar_indexNextAlt.j3 : Nat → ByteArray → Bool → Int → Int → Int → Bool → Option (Int)
  | 0, _, _, _, _, _, _ => none
  | k + 1, x0, x1, x5, x6, x7, x41 => if x41 = true then (doublestar_indexNextAlt.l1 k x0 x1 x5 x6 (wrap64 ((wrap64 (x7 + 1)) + 1))) else (if 0 ≤ x7 then (if x7 < (x0.size : Int) then (if (bt x0 x7) = 93 then (doublestar_indexNextAlt.l0 k x0 x1 x5 x6 (wrap64 (x7 + 1))) else (doublestar_indexNextAlt.l1 k x0 x1 x5 x6 (wrap64 (x7 + 1)))) else (none)) else (none))
end
def doublestar_indexNextAlt.f (k : Nat) (a0 : ByteArray) (a1 : Bool) : Option (Int) := doublestar_indexNextAlt.l0 k a0 a1 1 (a0.size : Int) 0
theorem doublestar_indexNextAlt.mono_l : ∀ k, (∀ y0 y1 y2 y3 y4, LeO (doublestar_indexNextAlt.l0 k y0 y1 y2 y3 y4) (doublestar_indexNextAlt.l0 (k + 1) y0 y1 y2 y3 y4)) ∧ (∀ y0 y1 y2 y3 y4 y5, LeO (doublestar_indexNextAlt.j1 k y0 y1 y2 y3 y4 y5) (doublestar_indexNextAlt.j1 (k + 1) y0 y1 y2 y3 y4 y5)) ∧ (∀ y0 y1 y2 y3 y4, LeO (doublestar_indexNextAlt.l1 k y0 y1 y2 y3 y4) (doublestar_indexNextAlt.l1 (k + 1) y0 y1 y2 y3 y4)) ∧ (∀ y0 y1 y2 y3 y4 y5, LeO (doublestar_indexNextAlt.j3 k y0 y1 y2 y3 y4 y5) (doublestar_indexNextAlt.j3 (k + 1) y0 y1 y2 y3 y4 y5))
  | 0 => ⟨fun _ _ _ _ _ r h => by simp [doublestar_indexNextAlt.l0] at h, fun _ _ _ _ _ _ r h => by simp [doublestar_indexNextAlt.j1] at h, fun _ _ _ _ _ r h => by simp [doublestar_indexNextAlt.l1] at h, fun _ _ _ _ _ _ r h => by simp [doublestar_indexNextAlt.j3] at h⟩
  | k + 1 => by
    obtain ⟨ih0, ih1, ih2, ih3⟩ := doublestar_indexNextAlt.mono_l k
    refine ⟨?_, ?_, ?_, ?_⟩
    · intro y0 y1 y2 y3 y4
      unfold doublestar_indexNextAlt.l0
      repeat' first
      | (with_reducible exact ih0 _ _ _ _ _)
      | (with_reducible exact ih1 _ _ _ _ _ _)
      | (with_reducible exact ih2 _ _ _ _ _)
      | (with_reducible exact ih3 _ _ _ _ _ _)
      | (with_reducible exact LeO.refl _)
      | (with_reducible exact LeO.none _)
      | (with_reducible refine LeO.ite ?_ ?_)
      | (with_reducible refine LeO.bind ?_ (fun _ => ?_))
      | exact ih0 _ _ _ _ _
      | exact ih1 _ _ _ _ _ _
      | exact ih2 _ _ _ _ _
      | exact ih3 _ _ _ _ _ _
      | exact LeO.none _
      | refine LeO.ite ?_ ?_
      | refine LeO.bind ?_ (fun _ => ?_)
    · intro y0 y1 y2 y3 y4 y5
      unfold doublestar_indexNextAlt.j1
      repeat' first
      | (with_reducible exact ih0 _ _ _ _ _)
      | (with_reducible exact ih1 _ _ _ _ _ _)
      | (with_reducible exact ih2 _ _ _ _ _)
      | (with_reducible exact ih3 _ _ _ _ _ _)
      | (with_reducible exact LeO.refl _)
      | (with_reducible exact LeO.none _)
      | (with_reducible refine LeO.ite ?_ ?_)
      | (with_reducible refine LeO.bind ?_ (fun _ => ?_))
      | exact ih0 _ _ _ _ _
      | exact ih1 _ _ _ _ _ _
      | exact ih2 _ _ _ _ _
      | exact ih3 _ _ _ _ _ _
      | exact LeO.none _
      | refine LeO.ite ?_ ?_
      | refine LeO.bind ?_ (fun _ => ?_)
    · intro y0 y1 y2 y3 y4
      unfold doublestar_indexNextAlt.l1
      repeat' first
      | (with_reducible exact ih0 _ _ _ _ _)
      | (with_reducible exact ih1 _ _ _ _ _ _)
      | (with_reducible exact ih2 _ _ _ _ _)
      | (with_reducible exact ih3 _ _ _ _ _ _)
      | (with_reducible exact LeO.refl _)
      | (with_reducible exact LeO.none _)
      | (with_reducible refine LeO.ite ?_ ?_)
      | (with_reducible refine LeO.bind ?_ (fun _ => ?_))
      | exact ih0 _ _ _ _ _
      | exact ih1 _ _ _ _ _ _
      | exact ih2 _ _ _ _ _
      | exact ih3 _ _ _ _ _ _
      | exact LeO.none _
      | refine LeO.ite ?_ ?_
      | refine LeO.bind ?_ (fun _ => ?_)
    · intro y0 y1 y2 y3 y4 y5
      unfold doublestar_indexNextAlt.j3
      repeat' first
      | (with_reducible exact ih0 _ _ _ _ _)
      | (with_reducible exact ih1 _ _ _ _ _ _)
      | (with_reducible exact ih2 _ _ _ _ _)
      | (with_reducible exact ih3 _ _ _ _ _ _)
      | (with_reducible exact LeO.refl _)
      | (with_reducible exact LeO.none _)
      | (with_reducible refine LeO.ite ?_ ?_)
      | (with_reducible refine LeO.bind ?_ (fun _ => ?_))
      | exact ih0 _ _ _ _ _
      | exact ih1 _ _ _ _ _ _
      | exact ih2 _ _ _ _ _
      | exact ih3 _ _ _ _ _ _
      | exact LeO.none _
      | refine LeO.ite ?_ ?_
      | refine LeO.bind ?_ (fun _ => ?_)
theorem doublestar_indexNextAlt.mono : ∀ a0 a1 k, LeO (doublestar_indexNextAlt.f k a0 a1) (doublestar_indexNextAlt.f (k + 1) a0 a1) := by
  intro a0 a1 k
  obtain ⟨ih0, ih1, ih2, ih3⟩ := doublestar_indexNextAlt.mono_l k
  unfold doublestar_indexNextAlt.f
  repeat' first
      | (with_reducible exact ih0 _ _ _ _ _)
      | (with_reducible exact ih1 _ _ _ _ _ _)
      | (with_reducible exact ih2 _ _ _ _ _)
      | (with_reducible exact ih3 _ _ _ _ _ _)
      | (with_reducible exact LeO.refl _)
      | (with_reducible exact LeO.none _)
      | (with_reducible refine LeO.ite ?_ ?_)
      | (with_reducible refine LeO.bind ?_ (fun _ => ?_))
      | exact ih0 _ _ _ _ _
      | exact ih1 _ _ _ _ _ _
      | exact ih2 _ _ _ _ _
      | exact ih3 _ _ _ _ _ _
      | exact LeO.none _
      | refine LeO.ite ?_ ?_
      | refine LeO.bind ?_ (fun _ => ?_)
set_option maxHeartbeats 8000000 in
set_option maxRecDepth 100000 in
theorem doublestar_indexNextAlt.calls (k : Nat) (a0 : ByteArray) (a1 : Bool) (r : Int) (w : World) (h : doublestar_indexNextAlt.f k a0 a1 = some r) :
    Calls Try.prog 46 #[.string a0, .bool a1] w fun e w' => e = .returned (.int .i64 r) ∧ Drawn0 w w' := by
  have H : (doublestar_indexNextAlt.l0 k a0 a1 1 (a0.size : Int) 0) = some r := h
  clear h
  have H' := Aside0.mk H
  clear H
  go_enter Try.func46, Try.ntmps46
  go_wp2
  go_loopg [5, 7] k (fun kq v5 v7 w' => ∃ (x5_1 : Int) (x7_1 : Int), v5 = .int .i64 x5_1 ∧ v7 = .int .i64 x7_1 ∧ Aside0 (doublestar_indexNextAlt.l0 kq a0 a1 x5_1 (a0.size : Int) x7_1 = some r) ∧ Aside0 (kq ≤ k) ∧ Drawn0 w w')
  case atStart => exact ⟨(1), (0), (by first | rfl | (simp; done) | (simp [*]; done)), (by first | rfl | (simp; done) | (simp [*]; done)), H', ⟨Nat.le_refl _⟩, by repeat (first | exact Drawn0.refl _ | apply Drawn0.step)⟩
  case round =>
    clear H'
    try clear p2
    obtain ⟨x5_1, x7_1, rfl, rfl, HA, HK1, ⟨m1, rfl⟩⟩ := hrel
    cases gk with
    | zero => exact absurd HA.out (by simp [doublestar_indexNextAlt.l0])
    | succ k1 =>
      have H := HA.out
      clear HA
      simp only [doublestar_indexNextAlt.l0] at H
      by_cases c3 : x7_1 < (a0.size : Int)
      · rw [if_pos c3] at H
        have c3b0 : decide (x7_1 < (a0.size : Int)) = true := decide_eq_true c3
        clear c3
        have HC4 := Aside0.mk H
        clear H
        go_upto_region 6 with (fail)
        go_cut [21] (fun v21 wc => ∃ (kq : Nat) (x21_3 : Bool), v21 = .bool x21_3 ∧ Aside0 (doublestar_indexNextAlt.j1 kq a0 a1 x5_1 (a0.size : Int) x7_1 x21_3 = some r) ∧ Aside0 (kq ≤ k1) ∧ Drawn0 w wc)
        case first =>
          have H := HC4.out
          clear HC4
          by_cases c5 : a1 = true
          · subst c5
            have H1 : (if 0 ≤ x7_1 then (if x7_1 < (a0.size : Int) then (doublestar_indexNextAlt.j1 k1 a0 true x5_1 (a0.size : Int) x7_1 ((bt a0 x7_1) == 92)) else (none)) else (none)) = some r := by rw [if_pos rfl] at H; exact H
            clear H
            have H := H1
            clear H1
            by_cases c6 : 0 ≤ x7_1
            · rw [if_pos c6] at H
              have c6b0 : decide (0 ≤ x7_1) = true := decide_eq_true c6
              clear c6
              (first | rw [c6b0] | (simp only [i64_w, i32_w]; rw [c6b0]) | skip)
              by_cases c7 : x7_1 < (a0.size : Int)
              · rw [if_pos c7] at H
                have c7b0 : decide (x7_1 < (a0.size : Int)) = true := decide_eq_true c7
                clear c7
                have H' := Aside0.mk H
                clear H
                have p8 : 0 ≤ (x7_1 : Int) := of_decide_eq_true (by first | (with_reducible assumption) | assumption)
                have q8 : x7_1 < (a0.size : Int) := of_decide_eq_true (by first | (with_reducible assumption) | assumption)
                have hx8 := bt_at a0 x7_1
                replace p8 := eq_true p8
                replace q8 := eq_true q8
                go_wp2
                go_meet
                case rel => exact ⟨_, (((bt a0 x7_1) == 92)), (by first | rfl | (simp; done) | (simp [*]; done)), H', ⟨by have := HK1.out; first | omega | exact Nat.le_refl _⟩, by repeat (first | exact Drawn0.refl _ | apply Drawn0.step)⟩
              · rw [if_neg c7] at H
                exact absurd H (by simp)
            · rw [if_neg c6] at H
              exact absurd H (by simp)
          · replace c5 := Bool.eq_false_iff.mpr c5
            subst c5
            have H1 : (doublestar_indexNextAlt.j1 k1 a0 false x5_1 (a0.size : Int) x7_1 false) = some r := by rw [if_neg (show ¬ (false = true) by decide)] at H; exact H
            clear H
            have H := H1
            clear H1
            have H' := Aside0.mk H
            clear H
            go_wp2
            go_meet
            case rel => exact ⟨_, (false), (by first | rfl | (simp; done) | (simp [*]; done)), H', ⟨by have := HK1.out; first | omega | exact Nat.le_refl _⟩, by repeat (first | exact Drawn0.refl _ | apply Drawn0.step)⟩
        case rest =>
          clear HC4
          try clear p2
          try clear c3
          try clear c3b0
          try clear c4
          try clear c5
          try clear c6
          try clear c6b0
          try clear c7
          try clear c7b0
          try clear p8
          try clear q8
          try clear hx8
          try clear p2
          try clear p8
          try clear q8
          obtain ⟨kq, x21_3, rfl, HA, HJ3, ⟨mc3, rfl⟩⟩ := hcut
          cases kq with
          | zero => exact absurd HA.out (by simp [doublestar_indexNextAlt.j1])
          | succ kj3 =>
            have H := HA.out
            clear HA
            simp only [doublestar_indexNextAlt.j1] at H
            by_cases c9 : x21_3 = true
            · subst c9
              have H1 : (doublestar_indexNextAlt.l0 kj3 a0 a1 x5_1 (a0.size : Int) (wrap64 ((wrap64 (x7_1 + 1)) + 1))) = some r := by rw [if_pos rfl] at H; exact H
              clear H
              have H := H1
              clear H1
              have H' := Aside0.mk H
              clear H
              go_wp2
              go_roundg kj3
              case measure => have := HK1.out; have := HJ3.out; omega
              case rel => exact ⟨(x5_1), (wrap64 ((wrap64 (x7_1 + 1)) + 1)), (by first | rfl | (simp; done) | (simp [*]; done)), (by first | rfl | (simp; done) | (simp [*]; done)), H', ⟨by have := HK1.out; have := HJ3.out; omega⟩, by repeat (first | exact Drawn0.refl _ | apply Drawn0.step)⟩
            · replace c9 := Bool.eq_false_iff.mpr c9
              subst c9
              have H1 : (if 0 ≤ x7_1 then (if x7_1 < (a0.size : Int) then (if (bt a0 x7_1) = 91 then (doublestar_indexNextAlt.l1 kj3 a0 a1 x5_1 (a0.size : Int) (wrap64 (x7_1 + 1))) else (if (bt a0 x7_1) = 123 then (doublestar_indexNextAlt.l0 kj3 a0 a1 (wrap64 (x5_1 + 1)) (a0.size : Int) (wrap64 (x7_1 + 1))) else (if (bt a0 x7_1) = 125 then (doublestar_indexNextAlt.l0 kj3 a0 a1 (wrap64 (x5_1 - 1)) (a0.size : Int) (wrap64 (x7_1 + 1))) else (if (bt a0 x7_1) = 44 then (if x5_1 = 1 then (some x7_1) else (doublestar_indexNextAlt.l0 kj3 a0 a1 x5_1 (a0.size : Int) (wrap64 (x7_1 + 1)))) else (doublestar_indexNextAlt.l0 kj3 a0 a1 x5_1 (a0.size : Int) (wrap64 (x7_1 + 1))))))) else (none)) else (none)) = some r := by rw [if_neg (show ¬ (false = true) by decide)] at H; exact H
              clear H
              have H := H1
              clear H1
              by_cases c10 : 0 ≤ x7_1
              · rw [if_pos c10] at H
                have c10b0 : decide (0 ≤ x7_1) = true := decide_eq_true c10
                clear c10
                by_cases c11 : x7_1 < (a0.size : Int)
                · rw [if_pos c11] at H
                  have c11b0 : decide (x7_1 < (a0.size : Int)) = true := decide_eq_true c11
                  clear c11
                  by_cases c13 : (bt a0 x7_1) = 91
                  · rw [if_pos c13] at H
                    have c13b0 : ((bt a0 x7_1) == 91) = true := beq_iff_eq.mpr c13
                    have c13b1 : ((bt a0 x7_1) != 91) = false := bne_eq_false_iff_eq.mpr c13
                    clear c13
                    have H' := Aside0.mk H
                    clear H
                    have p12 : 0 ≤ (x7_1 : Int) := of_decide_eq_true (by first | (with_reducible assumption) | assumption)
                    have q12 : x7_1 < (a0.size : Int) := of_decide_eq_true (by first | (with_reducible assumption) | assumption)
                    have hx12 := bt_at a0 x7_1
                    replace p12 := eq_true p12
                    replace q12 := eq_true q12
                    go_wp2
                    go_loopg [7] kj3 (fun kq v7 w' => ∃ (x7_3 : Int), v7 = .int .i64 x7_3 ∧ Aside0 (doublestar_indexNextAlt.l1 kq a0 a1 x5_1 (a0.size : Int) x7_3 = some r) ∧ Aside0 (kq ≤ kj3) ∧ Drawn0 w w')
                    case atStart => exact ⟨(wrap64 (x7_1 + 1)), (by first | rfl | (simp; done) | (simp [*]; done)), H', ⟨Nat.le_refl _⟩, by repeat (first | exact Drawn0.refl _ | apply Drawn0.step)⟩
                    case round =>
                      clear H'
                      try clear c1
                      try clear p1
                      try clear q1
                      try clear hx1
                      try clear p2
                      try clear c3
                      try clear c3b0
                      try clear c4
                      try clear c5
                      try clear c6
                      try clear c6b0
                      try clear p6
                      try clear c7
                      try clear c7b0
                      try clear p8
                      try clear q8
                      try clear hx8
                      try clear c9
                      try clear c10
                      try clear c10b0
                      try clear c11
                      try clear c11b0
                      try clear p12
                      try clear q12
                      try clear hx12
                      try clear c13
                      try clear c13b0
                      try clear c13b1
                      try clear p12
                      try clear p2
                      try clear p8
                      try clear q12
                      try clear q8
                      obtain ⟨x7_3, rfl, HA, HK3, ⟨m3, rfl⟩⟩ := hrel
                      cases gk with
                      | zero => exact absurd HA.out (by simp [doublestar_indexNextAlt.l1])
                      | succ k3 =>
                        have H := HA.out
                        clear HA
                        simp only [doublestar_indexNextAlt.l1] at H
                        by_cases c14 : x7_3 < (a0.size : Int)
                        · rw [if_pos c14] at H
                          have c14b0 : decide (x7_3 < (a0.size : Int)) = true := decide_eq_true c14
                          clear c14
                          have HC15 := Aside0.mk H
                          clear H
                          go_upto_region 12 with (fail)
                          go_cut [41] (fun v41 wc => ∃ (kq : Nat) (x41_14 : Bool), v41 = .bool x41_14 ∧ Aside0 (doublestar_indexNextAlt.j3 kq a0 a1 x5_1 (a0.size : Int) x7_3 x41_14 = some r) ∧ Aside0 (kq ≤ k3) ∧ Drawn0 w wc)
                          case first =>
                            have H := HC15.out
                            clear HC15
                            by_cases c16 : a1 = true
                            · subst c16
                              have H1 : (if 0 ≤ x7_3 then (if x7_3 < (a0.size : Int) then (doublestar_indexNextAlt.j3 k3 a0 true x5_1 (a0.size : Int) x7_3 ((bt a0 x7_3) == 92)) else (none)) else (none)) = some r := by rw [if_pos rfl] at H; exact H
                              clear H
                              have H := H1
                              clear H1
                              by_cases c17 : 0 ≤ x7_3
                              · rw [if_pos c17] at H
                                have c17b0 : decide (0 ≤ x7_3) = true := decide_eq_true c17
                                clear c17
                                (first | rw [c17b0] | (simp only [i64_w, i32_w]; rw [c17b0]) | skip)
                                by_cases c18 : x7_3 < (a0.size : Int)
                                · rw [if_pos c18] at H
                                  have c18b0 : decide (x7_3 < (a0.size : Int)) = true := decide_eq_true c18
                                  clear c18
                                  have H' := Aside0.mk H
                                  clear H
                                  have p19 : 0 ≤ (x7_3 : Int) := of_decide_eq_true (by first | (with_reducible assumption) | assumption)
                                  have q19 : x7_3 < (a0.size : Int) := of_decide_eq_true (by first | (with_reducible assumption) | assumption)
                                  have hx19 := bt_at a0 x7_3
                                  replace p19 := eq_true p19
                                  replace q19 := eq_true q19
                                  go_wp2
                                  go_meet
                                  case rel => exact ⟨_, (((bt a0 x7_3) == 92)), (by first | rfl | (simp; done) | (simp [*]; done)), H', ⟨by have := HK1.out; have := HJ3.out; have := HK3.out; first | omega | exact Nat.le_refl _⟩, by repeat (first | exact Drawn0.refl _ | apply Drawn0.step)⟩
                                · rw [if_neg c18] at H
                                  exact absurd H (by simp)
                              · rw [if_neg c17] at H
                                exact absurd H (by simp)
                            · replace c16 := Bool.eq_false_iff.mpr c16
                              subst c16
                              have H1 : (doublestar_indexNextAlt.j3 k3 a0 false x5_1 (a0.size : Int) x7_3 false) = some r := by rw [if_neg (show ¬ (false = true) by decide)] at H; exact H
                              clear H
                              have H := H1
                              clear H1
                              have H' := Aside0.mk H
                              clear H
                              go_wp2
                              go_meet
                              case rel => exact ⟨_, (false), (by first | rfl | (simp; done) | (simp [*]; done)), H', ⟨by have := HK1.out; have := HJ3.out; have := HK3.out; first | omega | exact Nat.le_refl _⟩, by repeat (first | exact Drawn0.refl _ | apply Drawn0.step)⟩
                          case rest =>
                            clear HC15
                            try clear c1
                            try clear p1
                            try clear q1
                            try clear hx1
                            try clear p2
                            try clear c3
                            try clear c3b0
                            try clear c4
                            try clear c5
                            try clear c6
                            try clear c6b0
                            try clear p6
                            try clear c7
                            try clear c7b0
                            try clear p8
                            try clear q8
                            try clear hx8
                            try clear c9
                            try clear c10
                            try clear c10b0
                            try clear c11
                            try clear c11b0
                            try clear p12
                            try clear q12
                            try clear hx12
                            try clear c13
                            try clear c13b0
                            try clear c13b1
                            try clear c14
                            try clear c14b0
                            try clear c16
                            try clear c17
                            try clear c17b0
                            try clear c18
                            try clear c18b0
                            try clear p19
                            try clear q19
                            try clear hx19
                            try clear p1
                            try clear p12
                            try clear p19
                            try clear p2
                            try clear p6
                            try clear p8
                            try clear q1
                            try clear q12
                            try clear q19
                            try clear q8
                            obtain ⟨kq, x41_14, rfl, HA, HJ14, ⟨mc14, rfl⟩⟩ := hcut
                            cases kq with
                            | zero => exact absurd HA.out (by simp [doublestar_indexNextAlt.j3])
                            | succ kj14 =>
                              have H := HA.out
                              clear HA
                              simp only [doublestar_indexNextAlt.j3] at H
                              by_cases c20 : x41_14 = true
                              · subst c20
                                have H1 : (doublestar_indexNextAlt.l1 kj14 a0 a1 x5_1 (a0.size : Int) (wrap64 ((wrap64 (x7_3 + 1)) + 1))) = some r := by rw [if_pos rfl] at H; exact H
                                clear H
                                have H := H1
                                clear H1
                                have H' := Aside0.mk H
                                clear H
                                go_wp2
                                go_roundg kj14
                                case measure => have := HK1.out; have := HJ3.out; have := HK3.out; have := HJ14.out; omega
                                case rel => exact ⟨(wrap64 ((wrap64 (x7_3 + 1)) + 1)), (by first | rfl | (simp; done) | (simp [*]; done)), H', ⟨by have := HK1.out; have := HJ3.out; have := HK3.out; have := HJ14.out; omega⟩, by repeat (first | exact Drawn0.refl _ | apply Drawn0.step)⟩
                              · replace c20 := Bool.eq_false_iff.mpr c20
                                subst c20
                                have H1 : (if 0 ≤ x7_3 then (if x7_3 < (a0.size : Int) then (if (bt a0 x7_3) = 93 then (doublestar_indexNextAlt.l0 kj14 a0 a1 x5_1 (a0.size : Int) (wrap64 (x7_3 + 1))) else (doublestar_indexNextAlt.l1 kj14 a0 a1 x5_1 (a0.size : Int) (wrap64 (x7_3 + 1)))) else (none)) else (none)) = some r := by rw [if_neg (show ¬ (false = true) by decide)] at H; exact H
                                clear H
                                have H := H1
                                clear H1
                                by_cases c21 : 0 ≤ x7_3
                                · rw [if_pos c21] at H
                                  have c21b0 : decide (0 ≤ x7_3) = true := decide_eq_true c21
                                  clear c21
                                  by_cases c22 : x7_3 < (a0.size : Int)
                                  · rw [if_pos c22] at H
                                    have c22b0 : decide (x7_3 < (a0.size : Int)) = true := decide_eq_true c22
                                    clear c22
                                    by_cases c24 : (bt a0 x7_3) = 93
                                    · rw [if_pos c24] at H
                                      have c24b0 : ((bt a0 x7_3) == 93) = true := beq_iff_eq.mpr c24
                                      have c24b1 : ((bt a0 x7_3) != 93) = false := bne_eq_false_iff_eq.mpr c24
                                      clear c24
                                      have H' := Aside0.mk H
                                      clear H
                                      have p23 : 0 ≤ (x7_3 : Int) := of_decide_eq_true (by first | (with_reducible assumption) | assumption)
                                      have q23 : x7_3 < (a0.size : Int) := of_decide_eq_true (by first | (with_reducible assumption) | assumption)
                                      have hx23 := bt_at a0 x7_3
                                      replace p23 := eq_true p23
                                      replace q23 := eq_true q23
                                      go_wp2
                                      go_roundg kj14
                                      case measure => have := HK1.out; have := HJ3.out; have := HK3.out; have := HJ14.out; omega
                                      case rel => exact ⟨(x5_1), (wrap64 (x7_3 + 1)), (by first | rfl | (simp; done) | (simp [*]; done)), (by first | rfl | (simp; done) | (simp [*]; done)), H', ⟨by have := HK1.out; have := HJ3.out; have := HK3.out; have := HJ14.out; omega⟩, by repeat (first | exact Drawn0.refl _ | apply Drawn0.step)⟩
                                    · rw [if_neg c24] at H
                                      have c24b0 : ((bt a0 x7_3) == 93) = false := beq_eq_false_iff_ne.mpr c24
                                      have c24b1 : ((bt a0 x7_3) != 93) = true := bne_iff_ne.mpr c24
                                      have H' := Aside0.mk H
                                      clear H
                                      have p23 : 0 ≤ (x7_3 : Int) := of_decide_eq_true (by first | (with_reducible assumption) | assumption)
                                      have q23 : x7_3 < (a0.size : Int) := of_decide_eq_true (by first | (with_reducible assumption) | assumption)
                                      have hx23 := bt_at a0 x7_3
                                      replace p23 := eq_true p23
                                      replace q23 := eq_true q23
                                      go_wp2
                                      go_roundg kj14
                                      case measure => have := HK1.out; have := HJ3.out; have := HK3.out; have := HJ14.out; omega
                                      case rel => exact ⟨(wrap64 (x7_3 + 1)), (by first | rfl | (simp; done) | (simp [*]; done)), H', ⟨by have := HK1.out; have := HJ3.out; have := HK3.out; have := HJ14.out; omega⟩, by repeat (first | exact Drawn0.refl _ | apply Drawn0.step)⟩
                                  · rw [if_neg c22] at H
                                    exact absurd H (by simp)
                                · rw [if_neg c21] at H
                                  exact absurd H (by simp)
                        · rw [if_neg c14] at H
                          have c14b0 : decide (x7_3 < (a0.size : Int)) = false := decide_eq_false c14
                          clear c14
                          have H' := Aside0.mk H
                          clear H
                          go_wp2
                          go_roundg k3
                          case measure => have := HK1.out; have := HJ3.out; have := HK3.out; omega
                          case rel => exact ⟨(x5_1), (wrap64 (x7_3 + 1)), (by first | rfl | (simp; done) | (simp [*]; done)), (by first | rfl | (simp; done) | (simp [*]; done)), H', ⟨by have := HK1.out; have := HJ3.out; have := HK3.out; omega⟩, by repeat (first | exact Drawn0.refl _ | apply Drawn0.step)⟩
                  · rw [if_neg c13] at H
                    have c13b0 : ((bt a0 x7_1) == 91) = false := beq_eq_false_iff_ne.mpr c13
                    have c13b1 : ((bt a0 x7_1) != 91) = true := bne_iff_ne.mpr c13
                    by_cases c26 : (bt a0 x7_1) = 123
                    · rw [if_pos c26] at H
                      have c26b0 : ((bt a0 x7_1) == 123) = true := beq_iff_eq.mpr c26
                      have c26b1 : ((bt a0 x7_1) != 123) = false := bne_eq_false_iff_eq.mpr c26
                      clear c26
                      have H' := Aside0.mk H
                      clear H
                      have p12 : 0 ≤ (x7_1 : Int) := of_decide_eq_true (by first | (with_reducible assumption) | assumption)
                      have q12 : x7_1 < (a0.size : Int) := of_decide_eq_true (by first | (with_reducible assumption) | assumption)
                      have hx12 := bt_at a0 x7_1
                      replace p12 := eq_true p12
                      replace q12 := eq_true q12
                      have p25 : 0 ≤ (x7_1 : Int) := of_decide_eq_true (by first | (with_reducible assumption) | assumption)
                      have q25 : x7_1 < (a0.size : Int) := of_decide_eq_true (by first | (with_reducible assumption) | assumption)
                      have hx25 := bt_at a0 x7_1
                      replace p25 := eq_true p25
                      replace q25 := eq_true q25
                      go_wp2
                      go_roundg kj3
                      case measure => have := HK1.out; have := HJ3.out; omega
                      case rel => exact ⟨(wrap64 (x5_1 + 1)), (wrap64 (x7_1 + 1)), (by first | rfl | (simp; done) | (simp [*]; done)), (by first | rfl | (simp; done) | (simp [*]; done)), H', ⟨by have := HK1.out; have := HJ3.out; omega⟩, by repeat (first | exact Drawn0.refl _ | apply Drawn0.step)⟩
                    · rw [if_neg c26] at H
                      have c26b0 : ((bt a0 x7_1) == 123) = false := beq_eq_false_iff_ne.mpr c26
                      have c26b1 : ((bt a0 x7_1) != 123) = true := bne_iff_ne.mpr c26
                      by_cases c28 : (bt a0 x7_1) = 125
                      · rw [if_pos c28] at H
                        have c28b0 : ((bt a0 x7_1) == 125) = true := beq_iff_eq.mpr c28
                        have c28b1 : ((bt a0 x7_1) != 125) = false := bne_eq_false_iff_eq.mpr c28
                        clear c28
                        have H' := Aside0.mk H
                        clear H
                        have p12 : 0 ≤ (x7_1 : Int) := of_decide_eq_true (by first | (with_reducible assumption) | assumption)
                        have q12 : x7_1 < (a0.size : Int) := of_decide_eq_true (by first | (with_reducible assumption) | assumption)
                        have hx12 := bt_at a0 x7_1
                        replace p12 := eq_true p12
                        replace q12 := eq_true q12
                        have p25 : 0 ≤ (x7_1 : Int) := of_decide_eq_true (by first | (with_reducible assumption) | assumption)
                        have q25 : x7_1 < (a0.size : Int) := of_decide_eq_true (by first | (with_reducible assumption) | assumption)
                        have hx25 := bt_at a0 x7_1
                        replace p25 := eq_true p25
                        replace q25 := eq_true q25
                        have p27 : 0 ≤ (x7_1 : Int) := of_decide_eq_true (by first | (with_reducible assumption) | assumption)
                        have q27 : x7_1 < (a0.size : Int) := of_decide_eq_true (by first | (with_reducible assumption) | assumption)
                        have hx27 := bt_at a0 x7_1
                        replace p27 := eq_true p27
                        replace q27 := eq_true q27
                        go_wp2
                        go_roundg kj3
                        case measure => have := HK1.out; have := HJ3.out; omega
                        case rel => exact ⟨(wrap64 (x5_1 - 1)), (wrap64 (x7_1 + 1)), (by first | rfl | (simp; done) | (simp [*]; done)), (by first | rfl | (simp; done) | (simp [*]; done)), H', ⟨by have := HK1.out; have := HJ3.out; omega⟩, by repeat (first | exact Drawn0.refl _ | apply Drawn0.step)⟩
                      · rw [if_neg c28] at H
                        have c28b0 : ((bt a0 x7_1) == 125) = false := beq_eq_false_iff_ne.mpr c28
                        have c28b1 : ((bt a0 x7_1) != 125) = true := bne_iff_ne.mpr c28
                        by_cases c30 : (bt a0 x7_1) = 44
                        · rw [if_pos c30] at H
                          have c30b0 : ((bt a0 x7_1) == 44) = true := beq_iff_eq.mpr c30
                          have c30b1 : ((bt a0 x7_1) != 44) = false := bne_eq_false_iff_eq.mpr c30
                          clear c30
                          by_cases c31 : x5_1 = 1
                          · rw [if_pos c31] at H
                            have c31b0 : (x5_1 == 1) = true := beq_iff_eq.mpr c31
                            have c31b1 : (x5_1 != 1) = false := bne_eq_false_iff_eq.mpr c31
                            clear c31
                            obtain rfl := Option.some.inj H
                            have p12 : 0 ≤ (x7_1 : Int) := of_decide_eq_true (by first | (with_reducible assumption) | assumption)
                            have q12 : x7_1 < (a0.size : Int) := of_decide_eq_true (by first | (with_reducible assumption) | assumption)
                            have hx12 := bt_at a0 x7_1
                            replace p12 := eq_true p12
                            replace q12 := eq_true q12
                            have p25 : 0 ≤ (x7_1 : Int) := of_decide_eq_true (by first | (with_reducible assumption) | assumption)
                            have q25 : x7_1 < (a0.size : Int) := of_decide_eq_true (by first | (with_reducible assumption) | assumption)
                            have hx25 := bt_at a0 x7_1
                            replace p25 := eq_true p25
                            replace q25 := eq_true q25
                            have p27 : 0 ≤ (x7_1 : Int) := of_decide_eq_true (by first | (with_reducible assumption) | assumption)
                            have q27 : x7_1 < (a0.size : Int) := of_decide_eq_true (by first | (with_reducible assumption) | assumption)
                            have hx27 := bt_at a0 x7_1
                            replace p27 := eq_true p27
                            replace q27 := eq_true q27
                            have p29 : 0 ≤ (x7_1 : Int) := of_decide_eq_true (by first | (with_reducible assumption) | assumption)
                            have q29 : x7_1 < (a0.size : Int) := of_decide_eq_true (by first | (with_reducible assumption) | assumption)
                            have hx29 := bt_at a0 x7_1
                            replace p29 := eq_true p29
                            replace q29 := eq_true q29
                            go_wp2
                            go_ret
                            exact ⟨by first | rfl | (simp; done) | (simp [*]; done), by repeat (first | exact Drawn0.refl _ | apply Drawn0.step)⟩
                          · rw [if_neg c31] at H
                            have c31b0 : (x5_1 == 1) = false := beq_eq_false_iff_ne.mpr c31
                            have c31b1 : (x5_1 != 1) = true := bne_iff_ne.mpr c31
                            have H' := Aside0.mk H
                            clear H
                            have p12 : 0 ≤ (x7_1 : Int) := of_decide_eq_true (by first | (with_reducible assumption) | assumption)
                            have q12 : x7_1 < (a0.size : Int) := of_decide_eq_true (by first | (with_reducible assumption) | assumption)
                            have hx12 := bt_at a0 x7_1
                            replace p12 := eq_true p12
                            replace q12 := eq_true q12
                            have p25 : 0 ≤ (x7_1 : Int) := of_decide_eq_true (by first | (with_reducible assumption) | assumption)
                            have q25 : x7_1 < (a0.size : Int) := of_decide_eq_true (by first | (with_reducible assumption) | assumption)
                            have hx25 := bt_at a0 x7_1
                            replace p25 := eq_true p25
                            replace q25 := eq_true q25
                            have p27 : 0 ≤ (x7_1 : Int) := of_decide_eq_true (by first | (with_reducible assumption) | assumption)
                            have q27 : x7_1 < (a0.size : Int) := of_decide_eq_true (by first | (with_reducible assumption) | assumption)
                            have hx27 := bt_at a0 x7_1
                            replace p27 := eq_true p27
                            replace q27 := eq_true q27
                            have p29 : 0 ≤ (x7_1 : Int) := of_decide_eq_true (by first | (with_reducible assumption) | assumption)
                            have q29 : x7_1 < (a0.size : Int) := of_decide_eq_true (by first | (with_reducible assumption) | assumption)
                            have hx29 := bt_at a0 x7_1
                            replace p29 := eq_true p29
                            replace q29 := eq_true q29
                            go_wp2
                            go_roundg kj3
                            case measure => have := HK1.out; have := HJ3.out; omega
                            case rel => exact ⟨(x5_1), (wrap64 (x7_1 + 1)), (by first | rfl | (simp; done) | (simp [*]; done)), (by first | rfl | (simp; done) | (simp [*]; done)), H', ⟨by have := HK1.out; have := HJ3.out; omega⟩, by repeat (first | exact Drawn0.refl _ | apply Drawn0.step)⟩
                        · rw [if_neg c30] at H
                          have c30b0 : ((bt a0 x7_1) == 44) = false := beq_eq_false_iff_ne.mpr c30
                          have c30b1 : ((bt a0 x7_1) != 44) = true := bne_iff_ne.mpr c30
                          have H' := Aside0.mk H
                          clear H
                          have p12 : 0 ≤ (x7_1 : Int) := of_decide_eq_true (by first | (with_reducible assumption) | assumption)
                          have q12 : x7_1 < (a0.size : Int) := of_decide_eq_true (by first | (with_reducible assumption) | assumption)
                          have hx12 := bt_at a0 x7_1
                          replace p12 := eq_true p12
                          replace q12 := eq_true q12
                          have p25 : 0 ≤ (x7_1 : Int) := of_decide_eq_true (by first | (with_reducible assumption) | assumption)
                          have q25 : x7_1 < (a0.size : Int) := of_decide_eq_true (by first | (with_reducible assumption) | assumption)
                          have hx25 := bt_at a0 x7_1
                          replace p25 := eq_true p25
                          replace q25 := eq_true q25
                          have p27 : 0 ≤ (x7_1 : Int) := of_decide_eq_true (by first | (with_reducible assumption) | assumption)
                          have q27 : x7_1 < (a0.size : Int) := of_decide_eq_true (by first | (with_reducible assumption) | assumption)
                          have hx27 := bt_at a0 x7_1
                          replace p27 := eq_true p27
                          replace q27 := eq_true q27
                          have p29 : 0 ≤ (x7_1 : Int) := of_decide_eq_true (by first | (with_reducible assumption) | assumption)
                          have q29 : x7_1 < (a0.size : Int) := of_decide_eq_true (by first | (with_reducible assumption) | assumption)
                          have hx29 := bt_at a0 x7_1
                          replace p29 := eq_true p29
                          replace q29 := eq_true q29
                          go_wp2
                          go_roundg kj3
                          case measure => have := HK1.out; have := HJ3.out; omega
                          case rel => exact ⟨(x5_1), (wrap64 (x7_1 + 1)), (by first | rfl | (simp; done) | (simp [*]; done)), (by first | rfl | (simp; done) | (simp [*]; done)), H', ⟨by have := HK1.out; have := HJ3.out; omega⟩, by repeat (first | exact Drawn0.refl _ | apply Drawn0.step)⟩
                · rw [if_neg c11] at H
                  exact absurd H (by simp)
              · rw [if_neg c10] at H
                exact absurd H (by simp)
      · rw [if_neg c3] at H
        have c3b0 : decide (x7_1 < (a0.size : Int)) = false := decide_eq_false c3
        clear c3
        obtain rfl := Option.some.inj H
        go_wp2
        go_ret
        exact ⟨by first | rfl | (simp; done) | (simp [*]; done), by repeat (first | exact Drawn0.refl _ | apply Drawn0.step)⟩

/-! ### doublestar_ZzNextAlt: function 34 -/
def doublestar_ZzNextAlt.f (k : Nat) (a0 : ByteArray) (a1 : Bool) : Option (Int) := (doublestar_indexNextAlt.f k a0 a1).bind fun t103 => (some t103)
theorem doublestar_ZzNextAlt.mono : ∀ a0 a1 k, LeO (doublestar_ZzNextAlt.f k a0 a1) (doublestar_ZzNextAlt.f (k + 1) a0 a1) := by
  intro a0 a1 k
  unfold doublestar_ZzNextAlt.f
  repeat' first
      | (with_reducible exact doublestar_indexNextAlt.mono _ _ _)
      | (with_reducible exact LeO.refl _)
      | (with_reducible exact LeO.none _)
      | (with_reducible refine LeO.ite ?_ ?_)
      | (with_reducible refine LeO.bind ?_ (fun _ => ?_))
      | exact doublestar_indexNextAlt.mono _ _ _
      | exact LeO.none _
      | refine LeO.ite ?_ ?_
      | refine LeO.bind ?_ (fun _ => ?_)
set_option maxHeartbeats 8000000 in
set_option maxRecDepth 100000 in
theorem doublestar_ZzNextAlt.calls (k : Nat) (a0 : ByteArray) (a1 : Bool) (r : Int) (w : World) (h : doublestar_ZzNextAlt.f k a0 a1 = some r) :
    Calls Try.prog 34 #[.string a0, .bool a1] w fun e w' => e = .returned (.int .i64 r) ∧ Drawn0 w w' := by
  have H : ((doublestar_indexNextAlt.f k a0 a1).bind fun t103 => (some t103)) = some r := h
  clear h
  replace H := Option.bind_eq_some_iff.mp H
  obtain ⟨t103, A30, H⟩ := H
  replace H : (some t103) = some r := H
  have A3 := Aside0.mk A30
  clear A30
  obtain rfl := Option.some.inj H
  go_enter Try.func34, Try.ntmps34
  go_wp2_with (first | ((with_reducible refine gate_callee (f := 46) rfl ?_); refine goesL_ (some 7) rfl rfl Try.func46 (by kernel_rfl) rfl #[.string a0, .bool a1] rfl (by (try simp only [List.map_toArray, List.map_cons, List.map_nil]); first | done | rfl | (simp only [List.length_drop, List.length_take]; rfl)) ?_; (with_reducible refine (doublestar_indexNextAlt.calls k a0 a1 t103 _ A3.out).mono ?_); rintro e w' ⟨rfl, ⟨nd, rfl⟩⟩; refine ⟨_, rfl, ?_⟩))
  go_ret
  exact ⟨by first | rfl | (simp; done) | (simp [*]; done), by repeat (first | exact Drawn0.refl _ | apply Drawn0.step)⟩

/-! ### impl_GlobNextAlt: function 20 -/
def impl_GlobNextAlt.f (k : Nat) (a0 : ByteArray) (a1 : Bool) : Option (Int) := (doublestar_ZzNextAlt.f k a0 a1).bind fun t104 => (some t104)
theorem impl_GlobNextAlt.mono : ∀ a0 a1 k, LeO (impl_GlobNextAlt.f k a0 a1) (impl_GlobNextAlt.f (k + 1) a0 a1) := by
  intro a0 a1 k
  unfold impl_GlobNextAlt.f
  repeat' first
      | (with_reducible exact doublestar_ZzNextAlt.mono _ _ _)
      | (with_reducible exact LeO.refl _)
      | (with_reducible exact LeO.none _)
      | (with_reducible refine LeO.ite ?_ ?_)
      | (with_reducible refine LeO.bind ?_ (fun _ => ?_))
      | exact doublestar_ZzNextAlt.mono _ _ _
      | exact LeO.none _
      | refine LeO.ite ?_ ?_
      | refine LeO.bind ?_ (fun _ => ?_)
set_option maxHeartbeats 8000000 in
set_option maxRecDepth 100000 in
theorem impl_GlobNextAlt.calls (k : Nat) (a0 : ByteArray) (a1 : Bool) (r : Int) (w : World) (h : impl_GlobNextAlt.f k a0 a1 = some r) :
    Calls Try.prog 20 #[.string a0, .bool a1] w fun e w' => e = .returned (.int .i64 r) ∧ Drawn0 w w' := by
  have H : ((doublestar_ZzNextAlt.f k a0 a1).bind fun t104 => (some t104)) = some r := h
  clear h
  replace H := Option.bind_eq_some_iff.mp H
  obtain ⟨t104, A30, H⟩ := H
  replace H : (some t104) = some r := H
  have A3 := Aside0.mk A30
  clear A30
  obtain rfl := Option.some.inj H
  go_enter Try.func20, Try.ntmps20
  go_wp2_with (first | ((with_reducible refine gate_callee (f := 34) rfl ?_); refine goesL_ (some 7) rfl rfl Try.func34 (by kernel_rfl) rfl #[.string a0, .bool a1] rfl (by (try simp only [List.map_toArray, List.map_cons, List.map_nil]); first | done | rfl | (simp only [List.length_drop, List.length_take]; rfl)) ?_; (with_reducible refine (doublestar_ZzNextAlt.calls k a0 a1 t104 _ A3.out).mono ?_); rintro e w' ⟨rfl, ⟨nd, rfl⟩⟩; refine ⟨_, rfl, ?_⟩))
  go_ret
  exact ⟨by first | rfl | (simp; done) | (simp [*]; done), by repeat (first | exact Drawn0.refl _ | apply Drawn0.step)⟩

/-! ### spec_globSkip: function 35 -/
def spec_globSkip.f (a0 : ByteArray) (a1 : Int) (a2 : Bool) : Option (Int) := if a2 = true then (if 0 ≤ a1 then (if a1 < (a0.size : Int) then (if (bt a0 a1) = 92 then (some (wrap64 (a1 + 2))) else (some (wrap64 (a1 + 1)))) else (none)) else (none)) else (some (wrap64 (a1 + 1)))
set_option maxHeartbeats 8000000 in
set_option maxRecDepth 100000 in
theorem spec_globSkip.calls (a0 : ByteArray) (a1 : Int) (a2 : Bool) (r : Int) (w : World) (h : spec_globSkip.f a0 a1 a2 = some r) :
    Calls Try.prog 35 #[.string a0, .int .i64 a1, .bool a2] w fun e w' => e = .returned (.int .i64 r) ∧ Drawn0 w w' := by
  have H : (if a2 = true then (if 0 ≤ a1 then (if a1 < (a0.size : Int) then (if (bt a0 a1) = 92 then (some (wrap64 (a1 + 2))) else (some (wrap64 (a1 + 1)))) else (none)) else (none)) else (some (wrap64 (a1 + 1)))) = some r := h
  clear h
  by_cases c4 : a2 = true
  · subst c4
    have H1 : (if 0 ≤ a1 then (if a1 < (a0.size : Int) then (if (bt a0 a1) = 92 then (some (wrap64 (a1 + 2))) else (some (wrap64 (a1 + 1)))) else (none)) else (none)) = some r := by rw [if_pos rfl] at H; exact H
    clear H
    have H := H1
    clear H1
    by_cases c5 : 0 ≤ a1
    · rw [if_pos c5] at H
      have c5b0 : decide (0 ≤ a1) = true := decide_eq_true c5
      clear c5
      by_cases c6 : a1 < (a0.size : Int)
      · rw [if_pos c6] at H
        have c6b0 : decide (a1 < (a0.size : Int)) = true := decide_eq_true c6
        clear c6
        by_cases c8 : (bt a0 a1) = 92
        · rw [if_pos c8] at H
          have c8b0 : ((bt a0 a1) == 92) = true := beq_iff_eq.mpr c8
          have c8b1 : ((bt a0 a1) != 92) = false := bne_eq_false_iff_eq.mpr c8
          clear c8
          obtain rfl := Option.some.inj H
          have p7 : 0 ≤ (a1 : Int) := of_decide_eq_true (by first | (with_reducible assumption) | assumption)
          have q7 : a1 < (a0.size : Int) := of_decide_eq_true (by first | (with_reducible assumption) | assumption)
          have hx7 := bt_at a0 a1
          replace p7 := eq_true p7
          replace q7 := eq_true q7
          go_enter Try.func35, Try.ntmps35
          go_wp2
          go_ret
          exact ⟨by first | rfl | (simp; done) | (simp [*]; done), by repeat (first | exact Drawn0.refl _ | apply Drawn0.step)⟩
        · rw [if_neg c8] at H
          have c8b0 : ((bt a0 a1) == 92) = false := beq_eq_false_iff_ne.mpr c8
          have c8b1 : ((bt a0 a1) != 92) = true := bne_iff_ne.mpr c8
          obtain rfl := Option.some.inj H
          have p7 : 0 ≤ (a1 : Int) := of_decide_eq_true (by first | (with_reducible assumption) | assumption)
          have q7 : a1 < (a0.size : Int) := of_decide_eq_true (by first | (with_reducible assumption) | assumption)
          have hx7 := bt_at a0 a1
          replace p7 := eq_true p7
          replace q7 := eq_true q7
          go_enter Try.func35, Try.ntmps35
          go_wp2
          go_ret
          exact ⟨by first | rfl | (simp; done) | (simp [*]; done), by repeat (first | exact Drawn0.refl _ | apply Drawn0.step)⟩
      · rw [if_neg c6] at H
        exact absurd H (by simp)
    · rw [if_neg c5] at H
      exact absurd H (by simp)
  · replace c4 := Bool.eq_false_iff.mpr c4
    subst c4
    have H1 : (some (wrap64 (a1 + 1))) = some r := by rw [if_neg (show ¬ (false = true) by decide)] at H; exact H
    clear H
    have H := H1
    clear H1
    obtain rfl := Option.some.inj H
    go_enter Try.func35, Try.ntmps35
    go_wp2
    go_ret
    exact ⟨by first | rfl | (simp; done) | (simp [*]; done), by repeat (first | exact Drawn0.refl _ | apply Drawn0.step)⟩

end Go.Proofs.Ytaljobijdbgohaa.PFnGlobClosing
