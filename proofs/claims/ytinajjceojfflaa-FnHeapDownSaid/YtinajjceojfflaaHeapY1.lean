/- spec.Rank, spec.Alike, spec.BagRows: as print.sh printed them for FnHeapDown. -/
import Derived.Test.YtinajjceojfflaaPFnHeapDownx0
namespace Go.Proofs.Ytinajjceojfflaa.PFnHeapDown
open Go.RowKit Go.Proofs.YtinajjceojfflaaW.PrintWords Go.Proofs.YtinajjceojfflaaW.PrintLast Go.Proofs.YtinajjceojfflaaW.PrintMore
attribute [local go_sem] max2_int min2_int max_two min_two max_three min_three max_four min_four   -- for this text's walks alone
set_option linter.unusedVariables false
set_option linter.unusedSimpArgs false

/-! ### spec_Rank: function 15 -/
def spec_Rank.f (l0 : List Int) (a1 : Int) : Option (Int) := if (l0.length : Int) = 0 then (some a1) else (if 0 ≤ (Int.tmod (wrap64 ((Int.tmod a1 (l0.length : Int)) + (l0.length : Int))) (l0.length : Int)) then (if (Int.tmod (wrap64 ((Int.tmod a1 (l0.length : Int)) + (l0.length : Int))) (l0.length : Int)) < (l0.length : Int) then (some (rd l0 (Int.tmod (wrap64 ((Int.tmod a1 (l0.length : Int)) + (l0.length : Int))) (l0.length : Int)))) else (none)) else (none))
set_option maxHeartbeats 8000000 in
set_option maxRecDepth 100000 in
theorem spec_Rank.calls (A0 : Option Addr) (c0 : Nat) (l0 : List Int) (a1 : Int) (r : Int) (w : World) (hr0 : Kd.C (Kd.int .i64) w A0 l0.length l0) (hc0 : l0.length ≤ c0) (h : spec_Rank.f l0 a1 = some r) :
    Calls Try.prog 15 #[.slice A0 l0.length c0, .int .i64 a1] w fun e w' => e = .returned (.int .i64 r) ∧ Drawn0 w w' := by
  have HR0 := Aside0.mk hr0
  have HC0 := Aside0.mk hc0
  clear hr0 hc0
  have H : (if (l0.length : Int) = 0 then (some a1) else (if 0 ≤ (Int.tmod (wrap64 ((Int.tmod a1 (l0.length : Int)) + (l0.length : Int))) (l0.length : Int)) then (if (Int.tmod (wrap64 ((Int.tmod a1 (l0.length : Int)) + (l0.length : Int))) (l0.length : Int)) < (l0.length : Int) then (some (rd l0 (Int.tmod (wrap64 ((Int.tmod a1 (l0.length : Int)) + (l0.length : Int))) (l0.length : Int)))) else (none)) else (none))) = some r := h
  clear h
  by_cases c3 : (l0.length : Int) = 0
  · rw [if_pos c3] at H
    have c3b0 : ((l0.length : Int) == 0) = true := beq_iff_eq.mpr c3
    have c3b1 : ((l0.length : Int) != 0) = false := bne_eq_false_iff_eq.mpr c3
    clear c3
    obtain rfl := Option.some.inj H
    go_enter Try.func15, Try.ntmps15
    go_wp2
    go_ret
    exact ⟨by first | rfl | (simp; done) | (simp [*]; done), by repeat (first | exact Drawn0.refl _ | apply Drawn0.step)⟩
  · rw [if_neg c3] at H
    have c3b0 : ((l0.length : Int) == 0) = false := beq_eq_false_iff_ne.mpr c3
    have c3b1 : ((l0.length : Int) != 0) = true := bne_iff_ne.mpr c3
    have c3b2 : ¬ (l0 = []) := fun h_ => c3 (by rw [h_]; rfl)
    obtain ⟨ji4, hji4⟩ : ∃ j_ : Int, (Int.tmod (wrap64 ((Int.tmod a1 (l0.length : Int)) + (l0.length : Int))) (l0.length : Int)) = j_ := ⟨_, rfl⟩
    replace H : (if 0 ≤ (ji4) then (if (ji4) < (l0.length : Int) then (some (rd l0 (ji4))) else (none)) else (none)) = some r := by first | (rw [hji4] at H; exact H) | (simp only [hji4] at H ⊢; exact H)
    by_cases c5 : 0 ≤ (ji4)
    · rw [if_pos c5] at H
      have c5b0 : decide (0 ≤ (ji4)) = true := decide_eq_true c5
      clear c5
      by_cases c6 : (ji4) < (l0.length : Int)
      · rw [if_pos c6] at H
        have c6b0 : decide ((ji4) < (l0.length : Int)) = true := decide_eq_true c6
        clear c6
        obtain rfl := Option.some.inj H
        have p110 : 0 ≤ ((ji4) : Int) := of_decide_eq_true (by first | (with_reducible assumption) | assumption)
        have q110 : (ji4) < (l0.length : Int) := of_decide_eq_true (by first | (with_reducible assumption) | assumption)
        obtain ⟨ad110, e110, hx110_0⟩ := Kd.at_int HR0.out (ji4) p110 q110
        cases e110
        replace p110 := eq_true p110
        replace q110 := eq_true q110
        go_enter Try.func15, Try.ntmps15
        go_wp2
        go_ret
        exact ⟨by first | rfl | (simp; done) | (simp only [← hji4] <;> (first | rfl | simp)) | (simp [*]; done), by repeat (first | exact Drawn0.refl _ | apply Drawn0.step)⟩
      · rw [if_neg c6] at H
        exact absurd H (by simp)
    · rw [if_neg c5] at H
      exact absurd H (by simp)

/-! ### spec_Alike: function 12 -/
def spec_Alike.f (l0 : List Int) (a1 : Int) (a2 : Int) : Option (Bool) := (spec_Rank.f l0 a1).bind fun t115 => ((spec_Rank.f l0 a2).bind fun t116 => (some (t115 == t116)))
set_option maxHeartbeats 8000000 in
set_option maxRecDepth 100000 in
theorem spec_Alike.calls (A0 : Option Addr) (c0 : Nat) (l0 : List Int) (a1 : Int) (a2 : Int) (r : Bool) (w : World) (hr0 : Kd.C (Kd.int .i64) w A0 l0.length l0) (hc0 : l0.length ≤ c0) (h : spec_Alike.f l0 a1 a2 = some r) :
    Calls Try.prog 12 #[.slice A0 l0.length c0, .int .i64 a1, .int .i64 a2] w fun e w' => e = .returned (.bool r) ∧ Drawn0 w w' := by
  have HR0 := Aside0.mk hr0
  have HC0 := Aside0.mk hc0
  clear hr0 hc0
  have H : ((spec_Rank.f l0 a1).bind fun t115 => ((spec_Rank.f l0 a2).bind fun t116 => (some (t115 == t116)))) = some r := h
  clear h
  replace H := Option.bind_eq_some_iff.mp H
  obtain ⟨t115, A40, H⟩ := H
  replace H : ((spec_Rank.f l0 a2).bind fun t116 => (some (t115 == t116))) = some r := H
  have A4 := Aside0.mk A40
  clear A40
  replace H := Option.bind_eq_some_iff.mp H
  obtain ⟨t116, A50, H⟩ := H
  replace H : (some (t115 == t116)) = some r := H
  have A5 := Aside0.mk A50
  clear A50
  obtain rfl := Option.some.inj H
  go_enter Try.func12, Try.ntmps12
  go_wp2_with (first | ((with_reducible refine gate_callee (f := 15) rfl ?_); refine goesL_ (some 9) rfl rfl Try.func15 (by kernel_rfl) rfl #[.slice A0 l0.length c0, .int .i64 a1] rfl (by (try simp only [List.map_toArray, List.map_cons, List.map_nil]); first | done | rfl | (simp only [List.length_drop, List.length_take]; rfl)) ?_; (with_reducible refine (spec_Rank.calls _ _ l0 a1 t115 _ ?side1 ?side2 A4.out).mono ?_); (case side1 => repeat (first | exact HR0.out | (with_reducible refine Kd.C_alloc ?_ _) | (with_reducible refine Kd.C_drewN ?_ _) | (with_reducible refine Kd.C_drew ?_))); (case side2 => exact HC0.out); rintro e w' ⟨rfl, ⟨nd, rfl⟩⟩; refine ⟨_, rfl, ?_⟩) | ((with_reducible refine gate_callee (f := 15) rfl ?_); refine goesL_ (some 12) rfl rfl Try.func15 (by kernel_rfl) rfl #[.slice A0 l0.length c0, .int .i64 a2] rfl (by (try simp only [List.map_toArray, List.map_cons, List.map_nil]); first | done | rfl | (simp only [List.length_drop, List.length_take]; rfl)) ?_; (with_reducible refine (spec_Rank.calls _ _ l0 a2 t116 _ ?side1 ?side2 A5.out).mono ?_); (case side1 => repeat (first | exact HR0.out | (with_reducible refine Kd.C_alloc ?_ _) | (with_reducible refine Kd.C_drewN ?_ _) | (with_reducible refine Kd.C_drew ?_))); (case side2 => exact HC0.out); rintro e w' ⟨rfl, ⟨nd, rfl⟩⟩; refine ⟨_, rfl, ?_⟩))
  go_ret
  exact ⟨by first | rfl | (simp; done) | (simp [*]; done), by repeat (first | exact Drawn0.refl _ | apply Drawn0.step)⟩

/-! ### spec_BagRows: function 17 -/
mutual
def spec_BagRows.l0 : Nat → List Int → List Int → List Int → Int → Option (Bool)
  | 0, _, _, _, _ => none
  | k + 1, x0, x1, x2, x7 => if x7 < (x1.length : Int) then (spec_BagRows.l1 k x0 x1 x2 x7 0 0 0) else (some true)
def spec_BagRows.l1 : Nat → List Int → List Int → List Int → Int → Int → Int → Int → Option (Bool)
  | 0, _, _, _, _, _, _, _ => none
  | k + 1, x0, x1, x2, x7, x8, x9, x10 => if x10 < (x1.length : Int) then (if 0 ≤ x7 then (if x7 < (x1.length : Int) then (if 0 ≤ x10 then ((spec_Alike.f x0 (rd x1 x7) (rd x1 x10)).bind fun t119 => (if t119 = true then (if x10 < (x2.length : Int) then ((spec_Alike.f x0 (rd x1 x7) (rd x2 x10)).bind fun t122 => (if t122 = true then (spec_BagRows.l1 k x0 x1 x2 x7 (wrap64 (x8 + 1)) (wrap64 (x9 + 1)) (wrap64 (x10 + 1))) else (spec_BagRows.l1 k x0 x1 x2 x7 (wrap64 (x8 + 1)) x9 (wrap64 (x10 + 1))))) else (none)) else (if x10 < (x2.length : Int) then ((spec_Alike.f x0 (rd x1 x7) (rd x2 x10)).bind fun t125 => (if t125 = true then (spec_BagRows.l1 k x0 x1 x2 x7 x8 (wrap64 (x9 + 1)) (wrap64 (x10 + 1))) else (spec_BagRows.l1 k x0 x1 x2 x7 x8 x9 (wrap64 (x10 + 1))))) else (none)))) else (none)) else (none)) else (none)) else (if x8 = x9 then (spec_BagRows.l0 k x0 x1 x2 (wrap64 (x7 + 1))) else (some false))
end
def spec_BagRows.f (k : Nat) (l0 : List Int) (l1 : List Int) (l2 : List Int) : Option (Bool) := if (l1.length : Int) = (l2.length : Int) then (spec_BagRows.l0 k l0 l1 l2 0) else (some false)
theorem spec_BagRows.mono_l : ∀ k, (∀ y0 y1 y2 y3, LeO (spec_BagRows.l0 k y0 y1 y2 y3) (spec_BagRows.l0 (k + 1) y0 y1 y2 y3)) ∧ (∀ y0 y1 y2 y3 y4 y5 y6, LeO (spec_BagRows.l1 k y0 y1 y2 y3 y4 y5 y6) (spec_BagRows.l1 (k + 1) y0 y1 y2 y3 y4 y5 y6))
  | 0 => ⟨fun _ _ _ _ r h => by simp [spec_BagRows.l0] at h, fun _ _ _ _ _ _ _ r h => by simp [spec_BagRows.l1] at h⟩
  | k + 1 => by
    obtain ⟨ih0, ih1⟩ := spec_BagRows.mono_l k
    refine ⟨?_, ?_⟩
    · intro y0 y1 y2 y3
      unfold spec_BagRows.l0
      repeat' first
      | (with_reducible exact ih0 _ _ _ _)
      | (with_reducible exact ih1 _ _ _ _ _ _ _)
      | (with_reducible exact LeO.refl _)
      | (with_reducible exact LeO.none _)
      | (with_reducible refine LeO.ite ?_ ?_)
      | (with_reducible refine LeO.bind ?_ (fun _ => ?_))
      | exact ih0 _ _ _ _
      | exact ih1 _ _ _ _ _ _ _
      | exact LeO.none _
      | refine LeO.ite ?_ ?_
      | refine LeO.bind ?_ (fun _ => ?_)
    · intro y0 y1 y2 y3 y4 y5 y6
      unfold spec_BagRows.l1
      repeat' first
      | (with_reducible exact ih0 _ _ _ _)
      | (with_reducible exact ih1 _ _ _ _ _ _ _)
      | (with_reducible exact LeO.refl _)
      | (with_reducible exact LeO.none _)
      | (with_reducible refine LeO.ite ?_ ?_)
      | (with_reducible refine LeO.bind ?_ (fun _ => ?_))
      | exact ih0 _ _ _ _
      | exact ih1 _ _ _ _ _ _ _
      | exact LeO.none _
      | refine LeO.ite ?_ ?_
      | refine LeO.bind ?_ (fun _ => ?_)
theorem spec_BagRows.mono : ∀ a0 a1 a2 k, LeO (spec_BagRows.f k a0 a1 a2) (spec_BagRows.f (k + 1) a0 a1 a2) := by
  intro a0 a1 a2 k
  obtain ⟨ih0, ih1⟩ := spec_BagRows.mono_l k
  unfold spec_BagRows.f
  repeat' first
      | (with_reducible exact ih0 _ _ _ _)
      | (with_reducible exact ih1 _ _ _ _ _ _ _)
      | (with_reducible exact LeO.refl _)
      | (with_reducible exact LeO.none _)
      | (with_reducible refine LeO.ite ?_ ?_)
      | (with_reducible refine LeO.bind ?_ (fun _ => ?_))
      | exact ih0 _ _ _ _
      | exact ih1 _ _ _ _ _ _ _
      | exact LeO.none _
      | refine LeO.ite ?_ ?_
      | refine LeO.bind ?_ (fun _ => ?_)
set_option maxHeartbeats 8000000 in
set_option maxRecDepth 100000 in
theorem spec_BagRows.calls (k : Nat) (A0 : Option Addr) (c0 : Nat) (l0 : List Int) (A1 : Option Addr) (c1 : Nat) (l1 : List Int) (A2 : Option Addr) (c2 : Nat) (l2 : List Int) (r : Bool) (w : World) (hr0 : Kd.C (Kd.int .i64) w A0 l0.length l0) (hc0 : l0.length ≤ c0) (hr1 : Kd.C (Kd.int .i64) w A1 l1.length l1) (hc1 : l1.length ≤ c1) (hr2 : Kd.C (Kd.int .i64) w A2 l2.length l2) (hc2 : l2.length ≤ c2) (h : spec_BagRows.f k l0 l1 l2 = some r) :
    Calls Try.prog 17 #[.slice A0 l0.length c0, .slice A1 l1.length c1, .slice A2 l2.length c2] w fun e w' => e = .returned (.bool r) ∧ Drawn0 w w' := by
  have HR0 := Aside0.mk hr0
  have HC0 := Aside0.mk hc0
  clear hr0 hc0
  have HR1 := Aside0.mk hr1
  have HC1 := Aside0.mk hc1
  clear hr1 hc1
  have HR2 := Aside0.mk hr2
  have HC2 := Aside0.mk hc2
  clear hr2 hc2
  have H : (if (l1.length : Int) = (l2.length : Int) then (spec_BagRows.l0 k l0 l1 l2 0) else (some false)) = some r := h
  clear h
  by_cases c4 : (l1.length : Int) = (l2.length : Int)
  · rw [if_pos c4] at H
    have c4b0 : ((l1.length : Int) == (l2.length : Int)) = true := beq_iff_eq.mpr c4
    have c4b1 : ((l1.length : Int) != (l2.length : Int)) = false := bne_eq_false_iff_eq.mpr c4
    have c4b2 : (l1.length == l2.length) = true := by first | simpa using c4 | (simp at c4 ⊢; omega)
    clear c4
    have H' := Aside0.mk H
    clear H
    go_enter Try.func17, Try.ntmps17
    go_wp2
    repeat (go_quiet (fail); try go_wp2)
    go_loopg [7] k (fun kq v7 w' => ∃ (x7_1 : Int), v7 = .int .i64 x7_1 ∧ Aside0 (spec_BagRows.l0 kq l0 l1 l2 x7_1 = some r) ∧ Aside0 (kq ≤ k) ∧ Drawn0 w w')
    case atStart => exact ⟨(0), (by first | rfl | (simp; done) | (simp [*]; done)), H', ⟨Nat.le_refl _⟩, by repeat (first | exact Drawn0.refl _ | apply Drawn0.step)⟩
    case round =>
      clear H'
      try clear c1
      try clear c2
      try clear p2
      try clear c4
      try clear c4b0
      try clear c4b1
      try clear c4b2
      obtain ⟨x7_1, rfl, HA, HK1, ⟨m1, rfl⟩⟩ := hrel
      cases gk with
      | zero => exact absurd HA.out (by simp [spec_BagRows.l0])
      | succ k1 =>
        have H := HA.out
        clear HA
        simp only [spec_BagRows.l0] at H
        by_cases c5 : x7_1 < (l1.length : Int)
        · rw [if_pos c5] at H
          have c5b0 : decide (x7_1 < (l1.length : Int)) = true := decide_eq_true c5
          clear c5
          have H' := Aside0.mk H
          clear H
          go_wp2
          repeat (go_quiet (fail); try go_wp2)
          go_loopg [8, 9, 10] k1 (fun kq v8 v9 v10 w' => ∃ (x8_2 : Int) (x9_2 : Int) (x10_2 : Int), v8 = .int .i64 x8_2 ∧ v9 = .int .i64 x9_2 ∧ v10 = .int .i64 x10_2 ∧ Aside0 (spec_BagRows.l1 kq l0 l1 l2 x7_1 x8_2 x9_2 x10_2 = some r) ∧ Aside0 (kq ≤ k1) ∧ Drawn0 w w')
          case atStart => exact ⟨(0), (0), (0), (by first | rfl | (simp; done) | (simp [*]; done)), (by first | rfl | (simp; done) | (simp [*]; done)), (by first | rfl | (simp; done) | (simp [*]; done)), H', ⟨Nat.le_refl _⟩, by repeat (first | exact Drawn0.refl _ | apply Drawn0.step)⟩
          case round =>
            clear H'
            try clear c1
            try clear c2
            try clear p2
            try clear c4
            try clear c4b0
            try clear c4b1
            try clear c4b2
            try clear c5
            try clear c5b0
            try clear p2
            obtain ⟨x8_2, x9_2, x10_2, rfl, rfl, rfl, HA, HK2, ⟨m2, rfl⟩⟩ := hrel
            cases gk with
            | zero => exact absurd HA.out (by simp [spec_BagRows.l1])
            | succ k2 =>
              have H := HA.out
              clear HA
              simp only [spec_BagRows.l1] at H
              by_cases c6 : x10_2 < (l1.length : Int)
              · rw [if_pos c6] at H
                have c6b0 : decide (x10_2 < (l1.length : Int)) = true := decide_eq_true c6
                clear c6
                by_cases c7 : 0 ≤ x7_1
                · rw [if_pos c7] at H
                  have c7b0 : decide (0 ≤ x7_1) = true := decide_eq_true c7
                  clear c7
                  by_cases c8 : x7_1 < (l1.length : Int)
                  · rw [if_pos c8] at H
                    have c8b0 : decide (x7_1 < (l1.length : Int)) = true := decide_eq_true c8
                    clear c8
                    by_cases c9 : 0 ≤ x10_2
                    · rw [if_pos c9] at H
                      have c9b0 : decide (0 ≤ x10_2) = true := decide_eq_true c9
                      clear c9
                      replace H := Option.bind_eq_some_iff.mp H
                      obtain ⟨t119, A100, H⟩ := H
                      replace H : (if t119 = true then (if x10_2 < (l2.length : Int) then ((spec_Alike.f l0 (rd l1 x7_1) (rd l2 x10_2)).bind fun t122 => (if t122 = true then (spec_BagRows.l1 k2 l0 l1 l2 x7_1 (wrap64 (x8_2 + 1)) (wrap64 (x9_2 + 1)) (wrap64 (x10_2 + 1))) else (spec_BagRows.l1 k2 l0 l1 l2 x7_1 (wrap64 (x8_2 + 1)) x9_2 (wrap64 (x10_2 + 1))))) else (none)) else (if x10_2 < (l2.length : Int) then ((spec_Alike.f l0 (rd l1 x7_1) (rd l2 x10_2)).bind fun t125 => (if t125 = true then (spec_BagRows.l1 k2 l0 l1 l2 x7_1 x8_2 (wrap64 (x9_2 + 1)) (wrap64 (x10_2 + 1))) else (spec_BagRows.l1 k2 l0 l1 l2 x7_1 x8_2 x9_2 (wrap64 (x10_2 + 1))))) else (none))) = some r := H
                      have A10 := Aside0.mk A100
                      clear A100
                      by_cases c11 : t119 = true
                      · subst c11
                        have H1 : (if x10_2 < (l2.length : Int) then ((spec_Alike.f l0 (rd l1 x7_1) (rd l2 x10_2)).bind fun t122 => (if t122 = true then (spec_BagRows.l1 k2 l0 l1 l2 x7_1 (wrap64 (x8_2 + 1)) (wrap64 (x9_2 + 1)) (wrap64 (x10_2 + 1))) else (spec_BagRows.l1 k2 l0 l1 l2 x7_1 (wrap64 (x8_2 + 1)) x9_2 (wrap64 (x10_2 + 1))))) else (none)) = some r := by rw [if_pos rfl] at H; exact H
                        clear H
                        have H := H1
                        clear H1
                        by_cases c12 : x10_2 < (l2.length : Int)
                        · rw [if_pos c12] at H
                          have c12b0 : decide (x10_2 < (l2.length : Int)) = true := decide_eq_true c12
                          clear c12
                          replace H := Option.bind_eq_some_iff.mp H
                          obtain ⟨t122, A130, H⟩ := H
                          replace H : (if t122 = true then (spec_BagRows.l1 k2 l0 l1 l2 x7_1 (wrap64 (x8_2 + 1)) (wrap64 (x9_2 + 1)) (wrap64 (x10_2 + 1))) else (spec_BagRows.l1 k2 l0 l1 l2 x7_1 (wrap64 (x8_2 + 1)) x9_2 (wrap64 (x10_2 + 1)))) = some r := H
                          have A13 := Aside0.mk A130
                          clear A130
                          by_cases c14 : t122 = true
                          · subst c14
                            have H1 : (spec_BagRows.l1 k2 l0 l1 l2 x7_1 (wrap64 (x8_2 + 1)) (wrap64 (x9_2 + 1)) (wrap64 (x10_2 + 1))) = some r := by rw [if_pos rfl] at H; exact H
                            clear H
                            have H := H1
                            clear H1
                            have H' := Aside0.mk H
                            clear H
                            have p117 : 0 ≤ (x7_1 : Int) := of_decide_eq_true (by first | (with_reducible assumption) | assumption)
                            have q117 : x7_1 < (l1.length : Int) := of_decide_eq_true (by first | (with_reducible assumption) | assumption)
                            obtain ⟨ad117, e117, hx117_0⟩ := Kd.at_int HR1.out x7_1 p117 q117
                            cases e117
                            replace p117 := eq_true p117
                            replace q117 := eq_true q117
                            have p118 : 0 ≤ (x10_2 : Int) := of_decide_eq_true (by first | (with_reducible assumption) | assumption)
                            have q118 : x10_2 < (l1.length : Int) := of_decide_eq_true (by first | (with_reducible assumption) | assumption)
                            obtain ⟨ad118, e118, hx118_0⟩ := Kd.at_int HR1.out x10_2 p118 q118
                            obtain rfl : ad117 = ad118 := (by injection e118)
                            replace p118 := eq_true p118
                            replace q118 := eq_true q118
                            go_wp2_with (first | (go_at_call 12; (with_reducible refine (spec_Alike.calls _ _ l0 (rd l1 x7_1) (rd l1 x10_2) true _ ?side1 ?side2 A10.out).mono ?_); (case side1 => repeat (first | exact HR0.out | (with_reducible refine Kd.C_alloc ?_ _) | (with_reducible refine Kd.C_drewN ?_ _) | (with_reducible refine Kd.C_drew ?_))); (case side2 => exact HC0.out); rintro e w' ⟨rfl, ⟨nd, rfl⟩⟩; (try first | exact ⟨rfl, _, World.drewN_drewN _ _ _⟩ | exact ⟨rfl, _, Eq.trans (World.drewN_drewN _ _ _) (congrArg (World.drewN _) (Nat.add_assoc _ _ _))⟩); have p120 : 0 ≤ (x7_1 : Int) := of_decide_eq_true (by first | (with_reducible assumption) | assumption); have q120 : x7_1 < (l1.length : Int) := of_decide_eq_true (by first | (with_reducible assumption) | assumption); obtain ⟨ad120, e120, hx120_0⟩ := Kd.at_int HR1.out x7_1 p120 q120; obtain rfl : ad117 = ad120 := (by injection e120); replace p120 := eq_true p120; replace q120 := eq_true q120; have p121 : 0 ≤ (x10_2 : Int) := of_decide_eq_true (by first | (with_reducible assumption) | assumption); have q121 : x10_2 < (l2.length : Int) := of_decide_eq_true (by first | (with_reducible assumption) | assumption); obtain ⟨ad121, e121, hx121_0⟩ := Kd.at_int HR2.out x10_2 p121 q121; cases e121; replace p121 := eq_true p121; replace q121 := eq_true q121) | (go_at_call 12; (with_reducible refine (spec_Alike.calls _ _ l0 (rd l1 x7_1) (rd l2 x10_2) true _ ?side1 ?side2 A13.out).mono ?_); (case side1 => repeat (first | exact HR0.out | (with_reducible refine Kd.C_alloc ?_ _) | (with_reducible refine Kd.C_drewN ?_ _) | (with_reducible refine Kd.C_drew ?_))); (case side2 => exact HC0.out); rintro e w' ⟨rfl, ⟨nd, rfl⟩⟩; (try first | exact ⟨rfl, _, World.drewN_drewN _ _ _⟩ | exact ⟨rfl, _, Eq.trans (World.drewN_drewN _ _ _) (congrArg (World.drewN _) (Nat.add_assoc _ _ _))⟩)))
                            repeat (go_quiet (first | (go_at_call 12; (with_reducible refine (spec_Alike.calls _ _ l0 (rd l1 x7_1) (rd l1 x10_2) true _ ?side1 ?side2 A10.out).mono ?_); (case side1 => repeat (first | exact HR0.out | (with_reducible refine Kd.C_alloc ?_ _) | (with_reducible refine Kd.C_drewN ?_ _) | (with_reducible refine Kd.C_drew ?_))); (case side2 => exact HC0.out); rintro e w' ⟨rfl, ⟨nd, rfl⟩⟩; (try first | exact ⟨rfl, _, World.drewN_drewN _ _ _⟩ | exact ⟨rfl, _, Eq.trans (World.drewN_drewN _ _ _) (congrArg (World.drewN _) (Nat.add_assoc _ _ _))⟩); have p120 : 0 ≤ (x7_1 : Int) := of_decide_eq_true (by first | (with_reducible assumption) | assumption); have q120 : x7_1 < (l1.length : Int) := of_decide_eq_true (by first | (with_reducible assumption) | assumption); obtain ⟨ad120, e120, hx120_0⟩ := Kd.at_int HR1.out x7_1 p120 q120; obtain rfl : ad117 = ad120 := (by injection e120); replace p120 := eq_true p120; replace q120 := eq_true q120; have p121 : 0 ≤ (x10_2 : Int) := of_decide_eq_true (by first | (with_reducible assumption) | assumption); have q121 : x10_2 < (l2.length : Int) := of_decide_eq_true (by first | (with_reducible assumption) | assumption); obtain ⟨ad121, e121, hx121_0⟩ := Kd.at_int HR2.out x10_2 p121 q121; cases e121; replace p121 := eq_true p121; replace q121 := eq_true q121) | (go_at_call 12; (with_reducible refine (spec_Alike.calls _ _ l0 (rd l1 x7_1) (rd l2 x10_2) true _ ?side1 ?side2 A13.out).mono ?_); (case side1 => repeat (first | exact HR0.out | (with_reducible refine Kd.C_alloc ?_ _) | (with_reducible refine Kd.C_drewN ?_ _) | (with_reducible refine Kd.C_drew ?_))); (case side2 => exact HC0.out); rintro e w' ⟨rfl, ⟨nd, rfl⟩⟩; (try first | exact ⟨rfl, _, World.drewN_drewN _ _ _⟩ | exact ⟨rfl, _, Eq.trans (World.drewN_drewN _ _ _) (congrArg (World.drewN _) (Nat.add_assoc _ _ _))⟩))); try go_wp2_with (first | (go_at_call 12; (with_reducible refine (spec_Alike.calls _ _ l0 (rd l1 x7_1) (rd l1 x10_2) true _ ?side1 ?side2 A10.out).mono ?_); (case side1 => repeat (first | exact HR0.out | (with_reducible refine Kd.C_alloc ?_ _) | (with_reducible refine Kd.C_drewN ?_ _) | (with_reducible refine Kd.C_drew ?_))); (case side2 => exact HC0.out); rintro e w' ⟨rfl, ⟨nd, rfl⟩⟩; (try first | exact ⟨rfl, _, World.drewN_drewN _ _ _⟩ | exact ⟨rfl, _, Eq.trans (World.drewN_drewN _ _ _) (congrArg (World.drewN _) (Nat.add_assoc _ _ _))⟩); have p120 : 0 ≤ (x7_1 : Int) := of_decide_eq_true (by first | (with_reducible assumption) | assumption); have q120 : x7_1 < (l1.length : Int) := of_decide_eq_true (by first | (with_reducible assumption) | assumption); obtain ⟨ad120, e120, hx120_0⟩ := Kd.at_int HR1.out x7_1 p120 q120; obtain rfl : ad117 = ad120 := (by injection e120); replace p120 := eq_true p120; replace q120 := eq_true q120; have p121 : 0 ≤ (x10_2 : Int) := of_decide_eq_true (by first | (with_reducible assumption) | assumption); have q121 : x10_2 < (l2.length : Int) := of_decide_eq_true (by first | (with_reducible assumption) | assumption); obtain ⟨ad121, e121, hx121_0⟩ := Kd.at_int HR2.out x10_2 p121 q121; cases e121; replace p121 := eq_true p121; replace q121 := eq_true q121) | (go_at_call 12; (with_reducible refine (spec_Alike.calls _ _ l0 (rd l1 x7_1) (rd l2 x10_2) true _ ?side1 ?side2 A13.out).mono ?_); (case side1 => repeat (first | exact HR0.out | (with_reducible refine Kd.C_alloc ?_ _) | (with_reducible refine Kd.C_drewN ?_ _) | (with_reducible refine Kd.C_drew ?_))); (case side2 => exact HC0.out); rintro e w' ⟨rfl, ⟨nd, rfl⟩⟩; (try first | exact ⟨rfl, _, World.drewN_drewN _ _ _⟩ | exact ⟨rfl, _, Eq.trans (World.drewN_drewN _ _ _) (congrArg (World.drewN _) (Nat.add_assoc _ _ _))⟩))))
                            go_roundg k2
                            case measure => have := HK1.out; have := HK2.out; omega
                            case rel => exact ⟨(wrap64 (x8_2 + 1)), (wrap64 (x9_2 + 1)), (wrap64 (x10_2 + 1)), (by first | rfl | (simp; done) | (simp [*]; done)), (by first | rfl | (simp; done) | (simp [*]; done)), (by first | rfl | (simp; done) | (simp [*]; done)), H', ⟨by have := HK1.out; have := HK2.out; omega⟩, by repeat (first | exact Drawn0.refl _ | apply Drawn0.step)⟩
                          · replace c14 := Bool.eq_false_iff.mpr c14
                            subst c14
                            have H1 : (spec_BagRows.l1 k2 l0 l1 l2 x7_1 (wrap64 (x8_2 + 1)) x9_2 (wrap64 (x10_2 + 1))) = some r := by rw [if_neg (show ¬ (false = true) by decide)] at H; exact H
                            clear H
                            have H := H1
                            clear H1
                            have H' := Aside0.mk H
                            clear H
                            have p117 : 0 ≤ (x7_1 : Int) := of_decide_eq_true (by first | (with_reducible assumption) | assumption)
                            have q117 : x7_1 < (l1.length : Int) := of_decide_eq_true (by first | (with_reducible assumption) | assumption)
                            obtain ⟨ad117, e117, hx117_0⟩ := Kd.at_int HR1.out x7_1 p117 q117
                            cases e117
                            replace p117 := eq_true p117
                            replace q117 := eq_true q117
                            have p118 : 0 ≤ (x10_2 : Int) := of_decide_eq_true (by first | (with_reducible assumption) | assumption)
                            have q118 : x10_2 < (l1.length : Int) := of_decide_eq_true (by first | (with_reducible assumption) | assumption)
                            obtain ⟨ad118, e118, hx118_0⟩ := Kd.at_int HR1.out x10_2 p118 q118
                            obtain rfl : ad117 = ad118 := (by injection e118)
                            replace p118 := eq_true p118
                            replace q118 := eq_true q118
                            go_wp2_with (first | (go_at_call 12; (with_reducible refine (spec_Alike.calls _ _ l0 (rd l1 x7_1) (rd l1 x10_2) true _ ?side1 ?side2 A10.out).mono ?_); (case side1 => repeat (first | exact HR0.out | (with_reducible refine Kd.C_alloc ?_ _) | (with_reducible refine Kd.C_drewN ?_ _) | (with_reducible refine Kd.C_drew ?_))); (case side2 => exact HC0.out); rintro e w' ⟨rfl, ⟨nd, rfl⟩⟩; (try first | exact ⟨rfl, _, World.drewN_drewN _ _ _⟩ | exact ⟨rfl, _, Eq.trans (World.drewN_drewN _ _ _) (congrArg (World.drewN _) (Nat.add_assoc _ _ _))⟩); have p120 : 0 ≤ (x7_1 : Int) := of_decide_eq_true (by first | (with_reducible assumption) | assumption); have q120 : x7_1 < (l1.length : Int) := of_decide_eq_true (by first | (with_reducible assumption) | assumption); obtain ⟨ad120, e120, hx120_0⟩ := Kd.at_int HR1.out x7_1 p120 q120; obtain rfl : ad117 = ad120 := (by injection e120); replace p120 := eq_true p120; replace q120 := eq_true q120; have p121 : 0 ≤ (x10_2 : Int) := of_decide_eq_true (by first | (with_reducible assumption) | assumption); have q121 : x10_2 < (l2.length : Int) := of_decide_eq_true (by first | (with_reducible assumption) | assumption); obtain ⟨ad121, e121, hx121_0⟩ := Kd.at_int HR2.out x10_2 p121 q121; cases e121; replace p121 := eq_true p121; replace q121 := eq_true q121) | (go_at_call 12; (with_reducible refine (spec_Alike.calls _ _ l0 (rd l1 x7_1) (rd l2 x10_2) false _ ?side1 ?side2 A13.out).mono ?_); (case side1 => repeat (first | exact HR0.out | (with_reducible refine Kd.C_alloc ?_ _) | (with_reducible refine Kd.C_drewN ?_ _) | (with_reducible refine Kd.C_drew ?_))); (case side2 => exact HC0.out); rintro e w' ⟨rfl, ⟨nd, rfl⟩⟩; (try first | exact ⟨rfl, _, World.drewN_drewN _ _ _⟩ | exact ⟨rfl, _, Eq.trans (World.drewN_drewN _ _ _) (congrArg (World.drewN _) (Nat.add_assoc _ _ _))⟩)))
                            repeat (go_quiet (first | (go_at_call 12; (with_reducible refine (spec_Alike.calls _ _ l0 (rd l1 x7_1) (rd l1 x10_2) true _ ?side1 ?side2 A10.out).mono ?_); (case side1 => repeat (first | exact HR0.out | (with_reducible refine Kd.C_alloc ?_ _) | (with_reducible refine Kd.C_drewN ?_ _) | (with_reducible refine Kd.C_drew ?_))); (case side2 => exact HC0.out); rintro e w' ⟨rfl, ⟨nd, rfl⟩⟩; (try first | exact ⟨rfl, _, World.drewN_drewN _ _ _⟩ | exact ⟨rfl, _, Eq.trans (World.drewN_drewN _ _ _) (congrArg (World.drewN _) (Nat.add_assoc _ _ _))⟩); have p120 : 0 ≤ (x7_1 : Int) := of_decide_eq_true (by first | (with_reducible assumption) | assumption); have q120 : x7_1 < (l1.length : Int) := of_decide_eq_true (by first | (with_reducible assumption) | assumption); obtain ⟨ad120, e120, hx120_0⟩ := Kd.at_int HR1.out x7_1 p120 q120; obtain rfl : ad117 = ad120 := (by injection e120); replace p120 := eq_true p120; replace q120 := eq_true q120; have p121 : 0 ≤ (x10_2 : Int) := of_decide_eq_true (by first | (with_reducible assumption) | assumption); have q121 : x10_2 < (l2.length : Int) := of_decide_eq_true (by first | (with_reducible assumption) | assumption); obtain ⟨ad121, e121, hx121_0⟩ := Kd.at_int HR2.out x10_2 p121 q121; cases e121; replace p121 := eq_true p121; replace q121 := eq_true q121) | (go_at_call 12; (with_reducible refine (spec_Alike.calls _ _ l0 (rd l1 x7_1) (rd l2 x10_2) false _ ?side1 ?side2 A13.out).mono ?_); (case side1 => repeat (first | exact HR0.out | (with_reducible refine Kd.C_alloc ?_ _) | (with_reducible refine Kd.C_drewN ?_ _) | (with_reducible refine Kd.C_drew ?_))); (case side2 => exact HC0.out); rintro e w' ⟨rfl, ⟨nd, rfl⟩⟩; (try first | exact ⟨rfl, _, World.drewN_drewN _ _ _⟩ | exact ⟨rfl, _, Eq.trans (World.drewN_drewN _ _ _) (congrArg (World.drewN _) (Nat.add_assoc _ _ _))⟩))); try go_wp2_with (first | (go_at_call 12; (with_reducible refine (spec_Alike.calls _ _ l0 (rd l1 x7_1) (rd l1 x10_2) true _ ?side1 ?side2 A10.out).mono ?_); (case side1 => repeat (first | exact HR0.out | (with_reducible refine Kd.C_alloc ?_ _) | (with_reducible refine Kd.C_drewN ?_ _) | (with_reducible refine Kd.C_drew ?_))); (case side2 => exact HC0.out); rintro e w' ⟨rfl, ⟨nd, rfl⟩⟩; (try first | exact ⟨rfl, _, World.drewN_drewN _ _ _⟩ | exact ⟨rfl, _, Eq.trans (World.drewN_drewN _ _ _) (congrArg (World.drewN _) (Nat.add_assoc _ _ _))⟩); have p120 : 0 ≤ (x7_1 : Int) := of_decide_eq_true (by first | (with_reducible assumption) | assumption); have q120 : x7_1 < (l1.length : Int) := of_decide_eq_true (by first | (with_reducible assumption) | assumption); obtain ⟨ad120, e120, hx120_0⟩ := Kd.at_int HR1.out x7_1 p120 q120; obtain rfl : ad117 = ad120 := (by injection e120); replace p120 := eq_true p120; replace q120 := eq_true q120; have p121 : 0 ≤ (x10_2 : Int) := of_decide_eq_true (by first | (with_reducible assumption) | assumption); have q121 : x10_2 < (l2.length : Int) := of_decide_eq_true (by first | (with_reducible assumption) | assumption); obtain ⟨ad121, e121, hx121_0⟩ := Kd.at_int HR2.out x10_2 p121 q121; cases e121; replace p121 := eq_true p121; replace q121 := eq_true q121) | (go_at_call 12; (with_reducible refine (spec_Alike.calls _ _ l0 (rd l1 x7_1) (rd l2 x10_2) false _ ?side1 ?side2 A13.out).mono ?_); (case side1 => repeat (first | exact HR0.out | (with_reducible refine Kd.C_alloc ?_ _) | (with_reducible refine Kd.C_drewN ?_ _) | (with_reducible refine Kd.C_drew ?_))); (case side2 => exact HC0.out); rintro e w' ⟨rfl, ⟨nd, rfl⟩⟩; (try first | exact ⟨rfl, _, World.drewN_drewN _ _ _⟩ | exact ⟨rfl, _, Eq.trans (World.drewN_drewN _ _ _) (congrArg (World.drewN _) (Nat.add_assoc _ _ _))⟩))))
                            go_roundg k2
                            case measure => have := HK1.out; have := HK2.out; omega
                            case rel => exact ⟨(wrap64 (x8_2 + 1)), (x9_2), (wrap64 (x10_2 + 1)), (by first | rfl | (simp; done) | (simp [*]; done)), (by first | rfl | (simp; done) | (simp [*]; done)), (by first | rfl | (simp; done) | (simp [*]; done)), H', ⟨by have := HK1.out; have := HK2.out; omega⟩, by repeat (first | exact Drawn0.refl _ | apply Drawn0.step)⟩
                        · rw [if_neg c12] at H
                          exact absurd H (by simp)
                      · replace c11 := Bool.eq_false_iff.mpr c11
                        subst c11
                        have H1 : (if x10_2 < (l2.length : Int) then ((spec_Alike.f l0 (rd l1 x7_1) (rd l2 x10_2)).bind fun t125 => (if t125 = true then (spec_BagRows.l1 k2 l0 l1 l2 x7_1 x8_2 (wrap64 (x9_2 + 1)) (wrap64 (x10_2 + 1))) else (spec_BagRows.l1 k2 l0 l1 l2 x7_1 x8_2 x9_2 (wrap64 (x10_2 + 1))))) else (none)) = some r := by rw [if_neg (show ¬ (false = true) by decide)] at H; exact H
                        clear H
                        have H := H1
                        clear H1
                        by_cases c15 : x10_2 < (l2.length : Int)
                        · rw [if_pos c15] at H
                          have c15b0 : decide (x10_2 < (l2.length : Int)) = true := decide_eq_true c15
                          clear c15
                          replace H := Option.bind_eq_some_iff.mp H
                          obtain ⟨t125, A160, H⟩ := H
                          replace H : (if t125 = true then (spec_BagRows.l1 k2 l0 l1 l2 x7_1 x8_2 (wrap64 (x9_2 + 1)) (wrap64 (x10_2 + 1))) else (spec_BagRows.l1 k2 l0 l1 l2 x7_1 x8_2 x9_2 (wrap64 (x10_2 + 1)))) = some r := H
                          have A16 := Aside0.mk A160
                          clear A160
                          by_cases c17 : t125 = true
                          · subst c17
                            have H1 : (spec_BagRows.l1 k2 l0 l1 l2 x7_1 x8_2 (wrap64 (x9_2 + 1)) (wrap64 (x10_2 + 1))) = some r := by rw [if_pos rfl] at H; exact H
                            clear H
                            have H := H1
                            clear H1
                            have H' := Aside0.mk H
                            clear H
                            have p117 : 0 ≤ (x7_1 : Int) := of_decide_eq_true (by first | (with_reducible assumption) | assumption)
                            have q117 : x7_1 < (l1.length : Int) := of_decide_eq_true (by first | (with_reducible assumption) | assumption)
                            obtain ⟨ad117, e117, hx117_0⟩ := Kd.at_int HR1.out x7_1 p117 q117
                            cases e117
                            replace p117 := eq_true p117
                            replace q117 := eq_true q117
                            have p118 : 0 ≤ (x10_2 : Int) := of_decide_eq_true (by first | (with_reducible assumption) | assumption)
                            have q118 : x10_2 < (l1.length : Int) := of_decide_eq_true (by first | (with_reducible assumption) | assumption)
                            obtain ⟨ad118, e118, hx118_0⟩ := Kd.at_int HR1.out x10_2 p118 q118
                            obtain rfl : ad117 = ad118 := (by injection e118)
                            replace p118 := eq_true p118
                            replace q118 := eq_true q118
                            go_wp2_with (first | (go_at_call 12; (with_reducible refine (spec_Alike.calls _ _ l0 (rd l1 x7_1) (rd l1 x10_2) false _ ?side1 ?side2 A10.out).mono ?_); (case side1 => repeat (first | exact HR0.out | (with_reducible refine Kd.C_alloc ?_ _) | (with_reducible refine Kd.C_drewN ?_ _) | (with_reducible refine Kd.C_drew ?_))); (case side2 => exact HC0.out); rintro e w' ⟨rfl, ⟨nd, rfl⟩⟩; (try first | exact ⟨rfl, _, World.drewN_drewN _ _ _⟩ | exact ⟨rfl, _, Eq.trans (World.drewN_drewN _ _ _) (congrArg (World.drewN _) (Nat.add_assoc _ _ _))⟩); have p123 : 0 ≤ (x7_1 : Int) := of_decide_eq_true (by first | (with_reducible assumption) | assumption); have q123 : x7_1 < (l1.length : Int) := of_decide_eq_true (by first | (with_reducible assumption) | assumption); obtain ⟨ad123, e123, hx123_0⟩ := Kd.at_int HR1.out x7_1 p123 q123; obtain rfl : ad117 = ad123 := (by injection e123); replace p123 := eq_true p123; replace q123 := eq_true q123; have p124 : 0 ≤ (x10_2 : Int) := of_decide_eq_true (by first | (with_reducible assumption) | assumption); have q124 : x10_2 < (l2.length : Int) := of_decide_eq_true (by first | (with_reducible assumption) | assumption); obtain ⟨ad124, e124, hx124_0⟩ := Kd.at_int HR2.out x10_2 p124 q124; cases e124; replace p124 := eq_true p124; replace q124 := eq_true q124) | (go_at_call 12; (with_reducible refine (spec_Alike.calls _ _ l0 (rd l1 x7_1) (rd l2 x10_2) true _ ?side1 ?side2 A16.out).mono ?_); (case side1 => repeat (first | exact HR0.out | (with_reducible refine Kd.C_alloc ?_ _) | (with_reducible refine Kd.C_drewN ?_ _) | (with_reducible refine Kd.C_drew ?_))); (case side2 => exact HC0.out); rintro e w' ⟨rfl, ⟨nd, rfl⟩⟩; (try first | exact ⟨rfl, _, World.drewN_drewN _ _ _⟩ | exact ⟨rfl, _, Eq.trans (World.drewN_drewN _ _ _) (congrArg (World.drewN _) (Nat.add_assoc _ _ _))⟩)))
                            repeat (go_quiet (first | (go_at_call 12; (with_reducible refine (spec_Alike.calls _ _ l0 (rd l1 x7_1) (rd l1 x10_2) false _ ?side1 ?side2 A10.out).mono ?_); (case side1 => repeat (first | exact HR0.out | (with_reducible refine Kd.C_alloc ?_ _) | (with_reducible refine Kd.C_drewN ?_ _) | (with_reducible refine Kd.C_drew ?_))); (case side2 => exact HC0.out); rintro e w' ⟨rfl, ⟨nd, rfl⟩⟩; (try first | exact ⟨rfl, _, World.drewN_drewN _ _ _⟩ | exact ⟨rfl, _, Eq.trans (World.drewN_drewN _ _ _) (congrArg (World.drewN _) (Nat.add_assoc _ _ _))⟩); have p123 : 0 ≤ (x7_1 : Int) := of_decide_eq_true (by first | (with_reducible assumption) | assumption); have q123 : x7_1 < (l1.length : Int) := of_decide_eq_true (by first | (with_reducible assumption) | assumption); obtain ⟨ad123, e123, hx123_0⟩ := Kd.at_int HR1.out x7_1 p123 q123; obtain rfl : ad117 = ad123 := (by injection e123); replace p123 := eq_true p123; replace q123 := eq_true q123; have p124 : 0 ≤ (x10_2 : Int) := of_decide_eq_true (by first | (with_reducible assumption) | assumption); have q124 : x10_2 < (l2.length : Int) := of_decide_eq_true (by first | (with_reducible assumption) | assumption); obtain ⟨ad124, e124, hx124_0⟩ := Kd.at_int HR2.out x10_2 p124 q124; cases e124; replace p124 := eq_true p124; replace q124 := eq_true q124) | (go_at_call 12; (with_reducible refine (spec_Alike.calls _ _ l0 (rd l1 x7_1) (rd l2 x10_2) true _ ?side1 ?side2 A16.out).mono ?_); (case side1 => repeat (first | exact HR0.out | (with_reducible refine Kd.C_alloc ?_ _) | (with_reducible refine Kd.C_drewN ?_ _) | (with_reducible refine Kd.C_drew ?_))); (case side2 => exact HC0.out); rintro e w' ⟨rfl, ⟨nd, rfl⟩⟩; (try first | exact ⟨rfl, _, World.drewN_drewN _ _ _⟩ | exact ⟨rfl, _, Eq.trans (World.drewN_drewN _ _ _) (congrArg (World.drewN _) (Nat.add_assoc _ _ _))⟩))); try go_wp2_with (first | (go_at_call 12; (with_reducible refine (spec_Alike.calls _ _ l0 (rd l1 x7_1) (rd l1 x10_2) false _ ?side1 ?side2 A10.out).mono ?_); (case side1 => repeat (first | exact HR0.out | (with_reducible refine Kd.C_alloc ?_ _) | (with_reducible refine Kd.C_drewN ?_ _) | (with_reducible refine Kd.C_drew ?_))); (case side2 => exact HC0.out); rintro e w' ⟨rfl, ⟨nd, rfl⟩⟩; (try first | exact ⟨rfl, _, World.drewN_drewN _ _ _⟩ | exact ⟨rfl, _, Eq.trans (World.drewN_drewN _ _ _) (congrArg (World.drewN _) (Nat.add_assoc _ _ _))⟩); have p123 : 0 ≤ (x7_1 : Int) := of_decide_eq_true (by first | (with_reducible assumption) | assumption); have q123 : x7_1 < (l1.length : Int) := of_decide_eq_true (by first | (with_reducible assumption) | assumption); obtain ⟨ad123, e123, hx123_0⟩ := Kd.at_int HR1.out x7_1 p123 q123; obtain rfl : ad117 = ad123 := (by injection e123); replace p123 := eq_true p123; replace q123 := eq_true q123; have p124 : 0 ≤ (x10_2 : Int) := of_decide_eq_true (by first | (with_reducible assumption) | assumption); have q124 : x10_2 < (l2.length : Int) := of_decide_eq_true (by first | (with_reducible assumption) | assumption); obtain ⟨ad124, e124, hx124_0⟩ := Kd.at_int HR2.out x10_2 p124 q124; cases e124; replace p124 := eq_true p124; replace q124 := eq_true q124) | (go_at_call 12; (with_reducible refine (spec_Alike.calls _ _ l0 (rd l1 x7_1) (rd l2 x10_2) true _ ?side1 ?side2 A16.out).mono ?_); (case side1 => repeat (first | exact HR0.out | (with_reducible refine Kd.C_alloc ?_ _) | (with_reducible refine Kd.C_drewN ?_ _) | (with_reducible refine Kd.C_drew ?_))); (case side2 => exact HC0.out); rintro e w' ⟨rfl, ⟨nd, rfl⟩⟩; (try first | exact ⟨rfl, _, World.drewN_drewN _ _ _⟩ | exact ⟨rfl, _, Eq.trans (World.drewN_drewN _ _ _) (congrArg (World.drewN _) (Nat.add_assoc _ _ _))⟩))))
                            go_roundg k2
                            case measure => have := HK1.out; have := HK2.out; omega
                            case rel => exact ⟨(x8_2), (wrap64 (x9_2 + 1)), (wrap64 (x10_2 + 1)), (by first | rfl | (simp; done) | (simp [*]; done)), (by first | rfl | (simp; done) | (simp [*]; done)), (by first | rfl | (simp; done) | (simp [*]; done)), H', ⟨by have := HK1.out; have := HK2.out; omega⟩, by repeat (first | exact Drawn0.refl _ | apply Drawn0.step)⟩
                          · replace c17 := Bool.eq_false_iff.mpr c17
                            subst c17
                            have H1 : (spec_BagRows.l1 k2 l0 l1 l2 x7_1 x8_2 x9_2 (wrap64 (x10_2 + 1))) = some r := by rw [if_neg (show ¬ (false = true) by decide)] at H; exact H
                            clear H
                            have H := H1
                            clear H1
                            have H' := Aside0.mk H
                            clear H
                            have p117 : 0 ≤ (x7_1 : Int) := of_decide_eq_true (by first | (with_reducible assumption) | assumption)
                            have q117 : x7_1 < (l1.length : Int) := of_decide_eq_true (by first | (with_reducible assumption) | assumption)
                            obtain ⟨ad117, e117, hx117_0⟩ := Kd.at_int HR1.out x7_1 p117 q117
                            cases e117
                            replace p117 := eq_true p117
                            replace q117 := eq_true q117
                            have p118 : 0 ≤ (x10_2 : Int) := of_decide_eq_true (by first | (with_reducible assumption) | assumption)
                            have q118 : x10_2 < (l1.length : Int) := of_decide_eq_true (by first | (with_reducible assumption) | assumption)
                            obtain ⟨ad118, e118, hx118_0⟩ := Kd.at_int HR1.out x10_2 p118 q118
                            obtain rfl : ad117 = ad118 := (by injection e118)
                            replace p118 := eq_true p118
                            replace q118 := eq_true q118
                            go_wp2_with (first | (go_at_call 12; (with_reducible refine (spec_Alike.calls _ _ l0 (rd l1 x7_1) (rd l1 x10_2) false _ ?side1 ?side2 A10.out).mono ?_); (case side1 => repeat (first | exact HR0.out | (with_reducible refine Kd.C_alloc ?_ _) | (with_reducible refine Kd.C_drewN ?_ _) | (with_reducible refine Kd.C_drew ?_))); (case side2 => exact HC0.out); rintro e w' ⟨rfl, ⟨nd, rfl⟩⟩; (try first | exact ⟨rfl, _, World.drewN_drewN _ _ _⟩ | exact ⟨rfl, _, Eq.trans (World.drewN_drewN _ _ _) (congrArg (World.drewN _) (Nat.add_assoc _ _ _))⟩); have p123 : 0 ≤ (x7_1 : Int) := of_decide_eq_true (by first | (with_reducible assumption) | assumption); have q123 : x7_1 < (l1.length : Int) := of_decide_eq_true (by first | (with_reducible assumption) | assumption); obtain ⟨ad123, e123, hx123_0⟩ := Kd.at_int HR1.out x7_1 p123 q123; obtain rfl : ad117 = ad123 := (by injection e123); replace p123 := eq_true p123; replace q123 := eq_true q123; have p124 : 0 ≤ (x10_2 : Int) := of_decide_eq_true (by first | (with_reducible assumption) | assumption); have q124 : x10_2 < (l2.length : Int) := of_decide_eq_true (by first | (with_reducible assumption) | assumption); obtain ⟨ad124, e124, hx124_0⟩ := Kd.at_int HR2.out x10_2 p124 q124; cases e124; replace p124 := eq_true p124; replace q124 := eq_true q124) | (go_at_call 12; (with_reducible refine (spec_Alike.calls _ _ l0 (rd l1 x7_1) (rd l2 x10_2) false _ ?side1 ?side2 A16.out).mono ?_); (case side1 => repeat (first | exact HR0.out | (with_reducible refine Kd.C_alloc ?_ _) | (with_reducible refine Kd.C_drewN ?_ _) | (with_reducible refine Kd.C_drew ?_))); (case side2 => exact HC0.out); rintro e w' ⟨rfl, ⟨nd, rfl⟩⟩; (try first | exact ⟨rfl, _, World.drewN_drewN _ _ _⟩ | exact ⟨rfl, _, Eq.trans (World.drewN_drewN _ _ _) (congrArg (World.drewN _) (Nat.add_assoc _ _ _))⟩)))
                            repeat (go_quiet (first | (go_at_call 12; (with_reducible refine (spec_Alike.calls _ _ l0 (rd l1 x7_1) (rd l1 x10_2) false _ ?side1 ?side2 A10.out).mono ?_); (case side1 => repeat (first | exact HR0.out | (with_reducible refine Kd.C_alloc ?_ _) | (with_reducible refine Kd.C_drewN ?_ _) | (with_reducible refine Kd.C_drew ?_))); (case side2 => exact HC0.out); rintro e w' ⟨rfl, ⟨nd, rfl⟩⟩; (try first | exact ⟨rfl, _, World.drewN_drewN _ _ _⟩ | exact ⟨rfl, _, Eq.trans (World.drewN_drewN _ _ _) (congrArg (World.drewN _) (Nat.add_assoc _ _ _))⟩); have p123 : 0 ≤ (x7_1 : Int) := of_decide_eq_true (by first | (with_reducible assumption) | assumption); have q123 : x7_1 < (l1.length : Int) := of_decide_eq_true (by first | (with_reducible assumption) | assumption); obtain ⟨ad123, e123, hx123_0⟩ := Kd.at_int HR1.out x7_1 p123 q123; obtain rfl : ad117 = ad123 := (by injection e123); replace p123 := eq_true p123; replace q123 := eq_true q123; have p124 : 0 ≤ (x10_2 : Int) := of_decide_eq_true (by first | (with_reducible assumption) | assumption); have q124 : x10_2 < (l2.length : Int) := of_decide_eq_true (by first | (with_reducible assumption) | assumption); obtain ⟨ad124, e124, hx124_0⟩ := Kd.at_int HR2.out x10_2 p124 q124; cases e124; replace p124 := eq_true p124; replace q124 := eq_true q124) | (go_at_call 12; (with_reducible refine (spec_Alike.calls _ _ l0 (rd l1 x7_1) (rd l2 x10_2) false _ ?side1 ?side2 A16.out).mono ?_); (case side1 => repeat (first | exact HR0.out | (with_reducible refine Kd.C_alloc ?_ _) | (with_reducible refine Kd.C_drewN ?_ _) | (with_reducible refine Kd.C_drew ?_))); (case side2 => exact HC0.out); rintro e w' ⟨rfl, ⟨nd, rfl⟩⟩; (try first | exact ⟨rfl, _, World.drewN_drewN _ _ _⟩ | exact ⟨rfl, _, Eq.trans (World.drewN_drewN _ _ _) (congrArg (World.drewN _) (Nat.add_assoc _ _ _))⟩))); try go_wp2_with (first | (go_at_call 12; (with_reducible refine (spec_Alike.calls _ _ l0 (rd l1 x7_1) (rd l1 x10_2) false _ ?side1 ?side2 A10.out).mono ?_); (case side1 => repeat (first | exact HR0.out | (with_reducible refine Kd.C_alloc ?_ _) | (with_reducible refine Kd.C_drewN ?_ _) | (with_reducible refine Kd.C_drew ?_))); (case side2 => exact HC0.out); rintro e w' ⟨rfl, ⟨nd, rfl⟩⟩; (try first | exact ⟨rfl, _, World.drewN_drewN _ _ _⟩ | exact ⟨rfl, _, Eq.trans (World.drewN_drewN _ _ _) (congrArg (World.drewN _) (Nat.add_assoc _ _ _))⟩); have p123 : 0 ≤ (x7_1 : Int) := of_decide_eq_true (by first | (with_reducible assumption) | assumption); have q123 : x7_1 < (l1.length : Int) := of_decide_eq_true (by first | (with_reducible assumption) | assumption); obtain ⟨ad123, e123, hx123_0⟩ := Kd.at_int HR1.out x7_1 p123 q123; obtain rfl : ad117 = ad123 := (by injection e123); replace p123 := eq_true p123; replace q123 := eq_true q123; have p124 : 0 ≤ (x10_2 : Int) := of_decide_eq_true (by first | (with_reducible assumption) | assumption); have q124 : x10_2 < (l2.length : Int) := of_decide_eq_true (by first | (with_reducible assumption) | assumption); obtain ⟨ad124, e124, hx124_0⟩ := Kd.at_int HR2.out x10_2 p124 q124; cases e124; replace p124 := eq_true p124; replace q124 := eq_true q124) | (go_at_call 12; (with_reducible refine (spec_Alike.calls _ _ l0 (rd l1 x7_1) (rd l2 x10_2) false _ ?side1 ?side2 A16.out).mono ?_); (case side1 => repeat (first | exact HR0.out | (with_reducible refine Kd.C_alloc ?_ _) | (with_reducible refine Kd.C_drewN ?_ _) | (with_reducible refine Kd.C_drew ?_))); (case side2 => exact HC0.out); rintro e w' ⟨rfl, ⟨nd, rfl⟩⟩; (try first | exact ⟨rfl, _, World.drewN_drewN _ _ _⟩ | exact ⟨rfl, _, Eq.trans (World.drewN_drewN _ _ _) (congrArg (World.drewN _) (Nat.add_assoc _ _ _))⟩))))
                            go_roundg k2
                            case measure => have := HK1.out; have := HK2.out; omega
                            case rel => exact ⟨(x8_2), (x9_2), (wrap64 (x10_2 + 1)), (by first | rfl | (simp; done) | (simp [*]; done)), (by first | rfl | (simp; done) | (simp [*]; done)), (by first | rfl | (simp; done) | (simp [*]; done)), H', ⟨by have := HK1.out; have := HK2.out; omega⟩, by repeat (first | exact Drawn0.refl _ | apply Drawn0.step)⟩
                        · rw [if_neg c15] at H
                          exact absurd H (by simp)
                    · rw [if_neg c9] at H
                      exact absurd H (by simp)
                  · rw [if_neg c8] at H
                    exact absurd H (by simp)
                · rw [if_neg c7] at H
                  exact absurd H (by simp)
              · rw [if_neg c6] at H
                have c6b0 : decide (x10_2 < (l1.length : Int)) = false := decide_eq_false c6
                clear c6
                by_cases c18 : x8_2 = x9_2
                · rw [if_pos c18] at H
                  have c18b0 : (x8_2 == x9_2) = true := beq_iff_eq.mpr c18
                  have c18b1 : (x8_2 != x9_2) = false := bne_eq_false_iff_eq.mpr c18
                  clear c18
                  have H' := Aside0.mk H
                  clear H
                  go_wp2
                  repeat (go_quiet (fail); try go_wp2)
                  go_roundg k2
                  case measure => have := HK1.out; have := HK2.out; omega
                  case rel => exact ⟨(wrap64 (x7_1 + 1)), (by first | rfl | (simp; done) | (simp [*]; done)), H', ⟨by have := HK1.out; have := HK2.out; omega⟩, by repeat (first | exact Drawn0.refl _ | apply Drawn0.step)⟩
                · rw [if_neg c18] at H
                  have c18b0 : (x8_2 == x9_2) = false := beq_eq_false_iff_ne.mpr c18
                  have c18b1 : (x8_2 != x9_2) = true := bne_iff_ne.mpr c18
                  obtain rfl := Option.some.inj H
                  go_wp2
                  repeat (go_quiet (fail); try go_wp2)
                  go_ret
                  exact ⟨by first | rfl | (simp; done) | (simp [*]; done), by repeat (first | exact Drawn0.refl _ | apply Drawn0.step)⟩
        · rw [if_neg c5] at H
          have c5b0 : decide (x7_1 < (l1.length : Int)) = false := decide_eq_false c5
          clear c5
          obtain rfl := Option.some.inj H
          go_wp2
          repeat (go_quiet (fail); try go_wp2)
          go_ret
          exact ⟨by first | rfl | (simp; done) | (simp [*]; done), by repeat (first | exact Drawn0.refl _ | apply Drawn0.step)⟩
  · rw [if_neg c4] at H
    have c4b0 : ((l1.length : Int) == (l2.length : Int)) = false := beq_eq_false_iff_ne.mpr c4
    have c4b1 : ((l1.length : Int) != (l2.length : Int)) = true := bne_iff_ne.mpr c4
    have c4b2 : (l1.length == l2.length) = false := by first | simpa using c4 | (simp at c4 ⊢; omega)
    obtain rfl := Option.some.inj H
    go_enter Try.func17, Try.ntmps17
    go_wp2
    repeat (go_quiet (fail); try go_wp2)
    go_ret
    exact ⟨by first | rfl | (simp; done) | (simp [*]; done), by repeat (first | exact Drawn0.refl _ | apply Drawn0.step)⟩


end Go.Proofs.Ytinajjceojfflaa.PFnHeapDown
