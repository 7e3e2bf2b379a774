/- spec.HeapRight: as print.sh printed it for FnHeapRuns, behind HeapX1. -/
import Derived.Test.YtinajjceojfflaaPFnHeapRunsx0
import Derived.Test.YtinajjceojfflaaHeapX1
namespace Go.Proofs.Ytinajjceojfflaa.PFnHeapRuns
open Go.RowKit Go.Proofs.YtinajjceojfflaaW.PrintWords Go.Proofs.YtinajjceojfflaaW.PrintLast Go.Proofs.YtinajjceojfflaaW.PrintMore
attribute [local go_sem] max2_int min2_int max_two min_two max_three min_three max_four min_four   -- for this text's walks alone
set_option linter.unusedVariables false
set_option linter.unusedSimpArgs false

/-! ### spec_HeapRight: function 10 -/
mutual
def spec_HeapRight.l0 : Nat → List Int → List (S28) → List (S31) → List Int → Int → Option (Bool)
  | 0, _, _, _, _, _ => none
  | k + 1, x0, x2, x3, x9, x10 => if x10 < (x2.length : Int) then (if 0 ≤ x10 then (if ((rd_T28 x2 x10).f1) = 0 then (if x9.length < 17592186044416 then (spec_HeapRight.l0 k x0 x2 x3 (x9 ++ [(rd_T28 x2 x10).f2]) (wrap64 (x10 + 1))) else (none)) else (if ((rd_T28 x2 x10).f1) = 1 then (spec_HeapRight.j1 k x0 x2 x3 x9 x10 ((rd_T28 x2 x10).f1) (((rd_T28 x2 x10).f1) == 1)) else (spec_HeapRight.j1 k x0 x2 x3 x9 x10 ((rd_T28 x2 x10).f1) (((rd_T28 x2 x10).f1) == 2)))) else (none)) else (some true)
def spec_HeapRight.j1 : Nat → List Int → List (S28) → List (S31) → List Int → Int → Int → Bool → Option (Bool)
  | 0, _, _, _, _, _, _, _ => none
  | k + 1, x0, x2, x3, x9, x10, x31, x42 => if x42 = true then (if (x9.length : Int) = 0 then (if 0 ≤ x10 then (if x10 < (x3.length : Int) then (if (rd_T31 x3 x10).f1 = true then (some false) else (if ((rd_T31 x3 x10).f0) = 0 then (spec_HeapRight.l0 k x0 x2 x3 x9 (wrap64 (x10 + 1))) else (some false))) else (none)) else (none)) else (spec_HeapRight.l1 k x0 x2 x3 x9 x10 (-1) 0)) else (if x31 = 3 then (if 0 ≤ x10 then (if x10 < (x3.length : Int) then (if ((rd_T31 x3 x10).f0) = (x9.length : Int) then (spec_HeapRight.l0 k x0 x2 x3 x9 (wrap64 (x10 + 1))) else (some false)) else (none)) else (none)) else (spec_HeapRight.l0 k x0 x2 x3 x9 (wrap64 (x10 + 1))))
def spec_HeapRight.l1 : Nat → List Int → List (S28) → List (S31) → List Int → Int → Int → Int → Option (Bool)
  | 0, _, _, _, _, _, _, _ => none
  | k + 1, x0, x2, x3, x9, x10, x11, x12 => if x12 < (x9.length : Int) then (if 0 ≤ x12 then ((spec_Rank.f x0 (rd x9 x12)).bind fun t127 => (if 0 ≤ x10 then (if x10 < (x3.length : Int) then ((spec_Rank.f x0 ((rd_T31 x3 x10).f0)).bind fun t129 => (if t127 < t129 then (some false) else (if (rd x9 x12) = ((rd_T31 x3 x10).f0) then (spec_HeapRight.l1 k x0 x2 x3 x9 x10 x12 (wrap64 (x12 + 1))) else (spec_HeapRight.l1 k x0 x2 x3 x9 x10 x11 (wrap64 (x12 + 1)))))) else (none)) else (none))) else (none)) else (if x11 < 0 then (spec_HeapRight.j3 k x0 x2 x3 x9 x10 x11 true) else (if 0 ≤ x10 then (if x10 < (x3.length : Int) then (spec_HeapRight.j3 k x0 x2 x3 x9 x10 x11 (!((rd_T31 x3 x10).f1))) else (none)) else (none)))
def spec_HeapRight.j3 : Nat → List Int → List (S28) → List (S31) → List Int → Int → Int → Bool → Option (Bool)
  | 0, _, _, _, _, _, _, _ => none
  | k + 1, x0, x2, x3, x9, x10, x11, x101 => if x101 = true then (some false) else (if 0 ≤ x10 then (if x10 < (x2.length : Int) then (if ((rd_T28 x2 x10).f1) = 1 then ((spec_cut.f x9 x11).bind fun t134 => (spec_HeapRight.l0 k x0 x2 x3 t134 (wrap64 (x10 + 1)))) else (spec_HeapRight.l0 k x0 x2 x3 x9 (wrap64 (x10 + 1)))) else (none)) else (none))
end
def spec_HeapRight.f (k : Nat) (l0 : List Int) (l1 : List Int) (l2 : List (S28)) (l3 : List (S31)) : Option (Bool) := if (l3.length : Int) = (l2.length : Int) then ((some (([] : List Int) : List Int)).bind fun y113 => (if y113.length + l1.length < 17592186044416 then (spec_HeapRight.l0 k l0 l2 l3 (y113 ++ l1) 0) else (none))) else (some false)
theorem spec_HeapRight.mono_l : ∀ k, (∀ y0 y1 y2 y3 y4, LeO (spec_HeapRight.l0 k y0 y1 y2 y3 y4) (spec_HeapRight.l0 (k + 1) y0 y1 y2 y3 y4)) ∧ (∀ y0 y1 y2 y3 y4 y5 y6, LeO (spec_HeapRight.j1 k y0 y1 y2 y3 y4 y5 y6) (spec_HeapRight.j1 (k + 1) y0 y1 y2 y3 y4 y5 y6)) ∧ (∀ y0 y1 y2 y3 y4 y5 y6, LeO (spec_HeapRight.l1 k y0 y1 y2 y3 y4 y5 y6) (spec_HeapRight.l1 (k + 1) y0 y1 y2 y3 y4 y5 y6)) ∧ (∀ y0 y1 y2 y3 y4 y5 y6, LeO (spec_HeapRight.j3 k y0 y1 y2 y3 y4 y5 y6) (spec_HeapRight.j3 (k + 1) y0 y1 y2 y3 y4 y5 y6))
  | 0 => ⟨fun _ _ _ _ _ r h => by simp [spec_HeapRight.l0] at h, fun _ _ _ _ _ _ _ r h => by simp [spec_HeapRight.j1] at h, fun _ _ _ _ _ _ _ r h => by simp [spec_HeapRight.l1] at h, fun _ _ _ _ _ _ _ r h => by simp [spec_HeapRight.j3] at h⟩
  | k + 1 => by
    obtain ⟨ih0, ih1, ih2, ih3⟩ := spec_HeapRight.mono_l k
    refine ⟨?_, ?_, ?_, ?_⟩
    · intro y0 y1 y2 y3 y4
      unfold spec_HeapRight.l0
      repeat' first
      | (with_reducible exact ih0 _ _ _ _ _)
      | (with_reducible exact ih1 _ _ _ _ _ _ _)
      | (with_reducible exact ih2 _ _ _ _ _ _ _)
      | (with_reducible exact ih3 _ _ _ _ _ _ _)
      | (with_reducible exact LeO.refl _)
      | (with_reducible exact LeO.none _)
      | (with_reducible refine LeO.ite ?_ ?_)
      | (with_reducible refine LeO.bind ?_ (fun _ => ?_))
      | exact ih0 _ _ _ _ _
      | exact ih1 _ _ _ _ _ _ _
      | exact ih2 _ _ _ _ _ _ _
      | exact ih3 _ _ _ _ _ _ _
      | exact LeO.none _
      | refine LeO.ite ?_ ?_
      | refine LeO.bind ?_ (fun _ => ?_)
    · intro y0 y1 y2 y3 y4 y5 y6
      unfold spec_HeapRight.j1
      repeat' first
      | (with_reducible exact ih0 _ _ _ _ _)
      | (with_reducible exact ih1 _ _ _ _ _ _ _)
      | (with_reducible exact ih2 _ _ _ _ _ _ _)
      | (with_reducible exact ih3 _ _ _ _ _ _ _)
      | (with_reducible exact LeO.refl _)
      | (with_reducible exact LeO.none _)
      | (with_reducible refine LeO.ite ?_ ?_)
      | (with_reducible refine LeO.bind ?_ (fun _ => ?_))
      | exact ih0 _ _ _ _ _
      | exact ih1 _ _ _ _ _ _ _
      | exact ih2 _ _ _ _ _ _ _
      | exact ih3 _ _ _ _ _ _ _
      | exact LeO.none _
      | refine LeO.ite ?_ ?_
      | refine LeO.bind ?_ (fun _ => ?_)
    · intro y0 y1 y2 y3 y4 y5 y6
      unfold spec_HeapRight.l1
      repeat' first
      | (with_reducible exact ih0 _ _ _ _ _)
      | (with_reducible exact ih1 _ _ _ _ _ _ _)
      | (with_reducible exact ih2 _ _ _ _ _ _ _)
      | (with_reducible exact ih3 _ _ _ _ _ _ _)
      | (with_reducible exact LeO.refl _)
      | (with_reducible exact LeO.none _)
      | (with_reducible refine LeO.ite ?_ ?_)
      | (with_reducible refine LeO.bind ?_ (fun _ => ?_))
      | exact ih0 _ _ _ _ _
      | exact ih1 _ _ _ _ _ _ _
      | exact ih2 _ _ _ _ _ _ _
      | exact ih3 _ _ _ _ _ _ _
      | exact LeO.none _
      | refine LeO.ite ?_ ?_
      | refine LeO.bind ?_ (fun _ => ?_)
    · intro y0 y1 y2 y3 y4 y5 y6
      unfold spec_HeapRight.j3
      repeat' first
      | (with_reducible exact ih0 _ _ _ _ _)
      | (with_reducible exact ih1 _ _ _ _ _ _ _)
      | (with_reducible exact ih2 _ _ _ _ _ _ _)
      | (with_reducible exact ih3 _ _ _ _ _ _ _)
      | (with_reducible exact LeO.refl _)
      | (with_reducible exact LeO.none _)
      | (with_reducible refine LeO.ite ?_ ?_)
      | (with_reducible refine LeO.bind ?_ (fun _ => ?_))
      | exact ih0 _ _ _ _ _
      | exact ih1 _ _ _ _ _ _ _
      | exact ih2 _ _ _ _ _ _ _
      | exact ih3 _ _ _ _ _ _ _
      | exact LeO.none _
      | refine LeO.ite ?_ ?_
      | refine LeO.bind ?_ (fun _ => ?_)
theorem spec_HeapRight.mono : ∀ a0 a1 a2 a3 k, LeO (spec_HeapRight.f k a0 a1 a2 a3) (spec_HeapRight.f (k + 1) a0 a1 a2 a3) := by
  intro a0 a1 a2 a3 k
  obtain ⟨ih0, ih1, ih2, ih3⟩ := spec_HeapRight.mono_l k
  unfold spec_HeapRight.f
  repeat' first
      | (with_reducible exact ih0 _ _ _ _ _)
      | (with_reducible exact ih1 _ _ _ _ _ _ _)
      | (with_reducible exact ih2 _ _ _ _ _ _ _)
      | (with_reducible exact ih3 _ _ _ _ _ _ _)
      | (with_reducible exact LeO.refl _)
      | (with_reducible exact LeO.none _)
      | (with_reducible refine LeO.ite ?_ ?_)
      | (with_reducible refine LeO.bind ?_ (fun _ => ?_))
      | exact ih0 _ _ _ _ _
      | exact ih1 _ _ _ _ _ _ _
      | exact ih2 _ _ _ _ _ _ _
      | exact ih3 _ _ _ _ _ _ _
      | exact LeO.none _
      | refine LeO.ite ?_ ?_
      | refine LeO.bind ?_ (fun _ => ?_)
set_option maxHeartbeats 8000000 in
set_option maxRecDepth 100000 in
theorem spec_HeapRight.calls (k : Nat) (A0 : Option Addr) (c0 : Nat) (l0 : List Int) (A1 : Option Addr) (c1 : Nat) (l1 : List Int) (A2 : Option Addr) (c2 : Nat) (l2 : List (S28)) (A3 : Option Addr) (c3 : Nat) (l3 : List (S31)) (r : Bool) (w : World) (hr0 : Kd.C (Kd.int .i64) w A0 l0.length l0) (hc0 : l0.length ≤ c0) (hr1 : Kd.C (Kd.int .i64) w A1 l1.length l1) (hc1 : l1.length ≤ c1) (hr2 : Kd.C k28 w A2 l2.length l2) (hc2 : l2.length ≤ c2) (hr3 : Kd.C k31 w A3 l3.length l3) (hc3 : l3.length ≤ c3) (h : spec_HeapRight.f k l0 l1 l2 l3 = some r) :
    Calls Try.prog 10 #[.slice A0 l0.length c0, .slice A1 l1.length c1, .slice A2 l2.length c2, .slice A3 l3.length c3] w fun e w' => e = .returned (.bool r) ∧ Below w.heap.size w w' := by
  have HR0 := Aside0.mk hr0
  have HC0 := Aside0.mk hc0
  clear hr0 hc0
  have HR1 := Aside0.mk hr1
  have HC1 := Aside0.mk hc1
  clear hr1 hc1
  have HR2 := Aside0.mk hr2
  have HC2 := Aside0.mk hc2
  clear hr2 hc2
  have HR3 := Aside0.mk hr3
  have HC3 := Aside0.mk hc3
  clear hr3 hc3
  have HB := Aside0.mk (Below.refl w.heap.size w)
  have H : (if (l3.length : Int) = (l2.length : Int) then ((some (([] : List Int) : List Int)).bind fun y113 => (if y113.length + l1.length < 17592186044416 then (spec_HeapRight.l0 k l0 l2 l3 (y113 ++ l1) 0) else (none))) else (some false)) = some r := h
  clear h
  by_cases c5 : (l3.length : Int) = (l2.length : Int)
  · rw [if_pos c5] at H
    have c5b0 : ((l3.length : Int) == (l2.length : Int)) = true := beq_iff_eq.mpr c5
    have c5b1 : ((l3.length : Int) != (l2.length : Int)) = false := bne_eq_false_iff_eq.mpr c5
    have c5b2 : (l3.length == l2.length) = true := by first | simpa using c5 | (simp at c5 ⊢; omega)
    clear c5
    obtain ⟨y113, hy113⟩ : ∃ y_ : List Int, y_ = (([] : List Int)) := ⟨_, rfl⟩
    replace H : (if y113.length + l1.length < 17592186044416 then (spec_HeapRight.l0 k l0 l2 l3 (y113 ++ l1) 0) else (none)) = some r := by first | (rw [hy113]; with_reducible exact H) | (have H2_ := (Option.bind_some _ _).symm.trans H; rw [hy113]; with_reducible exact H2_) | (have H2_ := (Option.bind_some _ _).symm.trans H; with_reducible exact H2_) | with_reducible exact H | (rw [hy113]; exact H) | exact H
    have Ny113 := Aside0.mk hy113
    clear hy113
    by_cases c6 : y113.length + l1.length < 17592186044416
    · rw [if_pos c6] at H
      have LMc6 := Aside0.mk c6
      clear c6
      obtain ⟨y116, hy116⟩ : ∃ y_ : List Int, y_ = (y113 ++ l1) := ⟨_, rfl⟩
      replace H : (spec_HeapRight.l0 k l0 l2 l3 y116 0) = some r := by first | (rw [hy116]; with_reducible exact H) | (have H2_ := (Option.bind_some _ _).symm.trans H; rw [hy116]; with_reducible exact H2_) | (have H2_ := (Option.bind_some _ _).symm.trans H; with_reducible exact H2_) | with_reducible exact H | (rw [hy116]; exact H) | exact H
      have Ny116 := Aside0.mk hy116
      clear hy116
      have H' := Aside0.mk H
      clear H
      go_enter Try.func10, Try.ntmps10
      go_wp2_with (first | ((with_reducible refine gate_dst (N := 18) rfl ?_); refine Kd.R_lit (Kd.int .i64) _ 3 ?hg (N := 18) ?hd (xs := ([] : List Int)) (inner := []) (ok := fun _ => True) (okp := fun _ => True) ?hr ?hp (fun _ hk => hk) trivial (Below.refl _ _) (Nat.le_refl _) (by simp) ?_; (case hd => rfl); (case hg => rfl); (case hr => first | (go_simp; done) | (go_simp; rfl)); (case hp => exact (Reps.none _ _)); intro v114 w7 ho8 hb hg_ hnew_; clear hg_ hnew_; (first | rw [← Ny113.out] at ho8 | (simp only [Int.reduceToNat] at ho8; rw [← Ny113.out] at ho8)); have n0_ := Aside0.mk (Kd.R_lower ho8 (below_size (by repeat (first | (with_reducible first | exact HB.out | apply below_alloc | apply pw_below_drewN | apply below_drew1) | exact HB.out)))); have n1_ := Aside0.mk (below_step (by repeat (first | (with_reducible first | exact HB.out | apply below_alloc | apply pw_below_drewN | apply below_drew1) | exact HB.out)) hb); clear HB; have HO115 := n0_; have HB := n1_; clear n0_ n1_; clear hb ho8) | ((with_reducible refine gate_builtin (b := .append) (xs := #[.tmp 18, .tmp 19]) rfl ?_); at_builtin; refine Kd.R_append_rows (Kd.int .i64) (w0 := w) w.heap.size rfl (.tmp 18) (.tmp 19) 22 3 (.int .i64 0) 8 rfl Try.underlying22 info3 rfl (by decide) (by omega) v114 y113 l1 _ _ _ (fun _ => True) (fun _ => False) rfl rfl ?aO ?aR (fun _ _ h => h) (fun _ h => h.elim) ?aF ?aB ?aS ?aL ?_; (case aR => repeat (first | exact (Kd.C_below HR1.out HB.out) | (with_reducible refine Kd.C_alloc ?_ _) | (with_reducible refine Kd.C_drewN ?_ _) | (with_reducible refine Kd.C_drew ?_))); (case aB => exact (by repeat (first | (with_reducible first | exact HB.out | apply below_alloc | apply pw_below_drewN | apply below_drew1) | exact HB.out))); (case aF => exact (fun _ _ => trivial)); (case aO => exact (by (with_reducible repeat (first | apply Kd.R_alloc | apply Kd.R_drewN | apply Kd.R_drew)); exact HO115.out)); (case aS => exact (below_size (by repeat (first | (with_reducible first | exact HB.out | apply below_alloc | apply pw_below_drewN | apply below_drew1) | exact HB.out)))); (case aL => have := LMc6.out; omega); intro v117 w9 ho hb hg hat; rw [← Ny116.out] at ho; have n0_ := Aside0.mk (hb); have n1_ := Aside0.mk (ho); clear HB; clear HO115; have HB := n0_; have HO118 := n1_; clear n0_ n1_; clear ho hb hg hat))
      repeat (go_quiet (first | ((with_reducible refine gate_dst (N := 18) rfl ?_); refine Kd.R_lit (Kd.int .i64) _ 3 ?hg (N := 18) ?hd (xs := ([] : List Int)) (inner := []) (ok := fun _ => True) (okp := fun _ => True) ?hr ?hp (fun _ hk => hk) trivial (Below.refl _ _) (Nat.le_refl _) (by simp) ?_; (case hd => rfl); (case hg => rfl); (case hr => first | (go_simp; done) | (go_simp; rfl)); (case hp => exact (Reps.none _ _)); intro v114 w7 ho8 hb hg_ hnew_; clear hg_ hnew_; (first | rw [← Ny113.out] at ho8 | (simp only [Int.reduceToNat] at ho8; rw [← Ny113.out] at ho8)); have n0_ := Aside0.mk (Kd.R_lower ho8 (below_size (by repeat (first | (with_reducible first | exact HB.out | apply below_alloc | apply pw_below_drewN | apply below_drew1) | exact HB.out)))); have n1_ := Aside0.mk (below_step (by repeat (first | (with_reducible first | exact HB.out | apply below_alloc | apply pw_below_drewN | apply below_drew1) | exact HB.out)) hb); clear HB; have HO115 := n0_; have HB := n1_; clear n0_ n1_; clear hb ho8) | ((with_reducible refine gate_builtin (b := .append) (xs := #[.tmp 18, .tmp 19]) rfl ?_); at_builtin; refine Kd.R_append_rows (Kd.int .i64) (w0 := w) w.heap.size rfl (.tmp 18) (.tmp 19) 22 3 (.int .i64 0) 8 rfl Try.underlying22 info3 rfl (by decide) (by omega) v114 y113 l1 _ _ _ (fun _ => True) (fun _ => False) rfl rfl ?aO ?aR (fun _ _ h => h) (fun _ h => h.elim) ?aF ?aB ?aS ?aL ?_; (case aR => repeat (first | exact (Kd.C_below HR1.out HB.out) | (with_reducible refine Kd.C_alloc ?_ _) | (with_reducible refine Kd.C_drewN ?_ _) | (with_reducible refine Kd.C_drew ?_))); (case aB => exact (by repeat (first | (with_reducible first | exact HB.out | apply below_alloc | apply pw_below_drewN | apply below_drew1) | exact HB.out))); (case aF => exact (fun _ _ => trivial)); (case aO => exact (by (with_reducible repeat (first | apply Kd.R_alloc | apply Kd.R_drewN | apply Kd.R_drew)); exact HO115.out)); (case aS => exact (below_size (by repeat (first | (with_reducible first | exact HB.out | apply below_alloc | apply pw_below_drewN | apply below_drew1) | exact HB.out)))); (case aL => have := LMc6.out; omega); intro v117 w9 ho hb hg hat; rw [← Ny116.out] at ho; have n0_ := Aside0.mk (hb); have n1_ := Aside0.mk (ho); clear HB; clear HO115; have HB := n0_; have HO118 := n1_; clear n0_ n1_; clear ho hb hg hat)); try go_wp2_with (first | ((with_reducible refine gate_dst (N := 18) rfl ?_); refine Kd.R_lit (Kd.int .i64) _ 3 ?hg (N := 18) ?hd (xs := ([] : List Int)) (inner := []) (ok := fun _ => True) (okp := fun _ => True) ?hr ?hp (fun _ hk => hk) trivial (Below.refl _ _) (Nat.le_refl _) (by simp) ?_; (case hd => rfl); (case hg => rfl); (case hr => first | (go_simp; done) | (go_simp; rfl)); (case hp => exact (Reps.none _ _)); intro v114 w7 ho8 hb hg_ hnew_; clear hg_ hnew_; (first | rw [← Ny113.out] at ho8 | (simp only [Int.reduceToNat] at ho8; rw [← Ny113.out] at ho8)); have n0_ := Aside0.mk (Kd.R_lower ho8 (below_size (by repeat (first | (with_reducible first | exact HB.out | apply below_alloc | apply pw_below_drewN | apply below_drew1) | exact HB.out)))); have n1_ := Aside0.mk (below_step (by repeat (first | (with_reducible first | exact HB.out | apply below_alloc | apply pw_below_drewN | apply below_drew1) | exact HB.out)) hb); clear HB; have HO115 := n0_; have HB := n1_; clear n0_ n1_; clear hb ho8) | ((with_reducible refine gate_builtin (b := .append) (xs := #[.tmp 18, .tmp 19]) rfl ?_); at_builtin; refine Kd.R_append_rows (Kd.int .i64) (w0 := w) w.heap.size rfl (.tmp 18) (.tmp 19) 22 3 (.int .i64 0) 8 rfl Try.underlying22 info3 rfl (by decide) (by omega) v114 y113 l1 _ _ _ (fun _ => True) (fun _ => False) rfl rfl ?aO ?aR (fun _ _ h => h) (fun _ h => h.elim) ?aF ?aB ?aS ?aL ?_; (case aR => repeat (first | exact (Kd.C_below HR1.out HB.out) | (with_reducible refine Kd.C_alloc ?_ _) | (with_reducible refine Kd.C_drewN ?_ _) | (with_reducible refine Kd.C_drew ?_))); (case aB => exact (by repeat (first | (with_reducible first | exact HB.out | apply below_alloc | apply pw_below_drewN | apply below_drew1) | exact HB.out))); (case aF => exact (fun _ _ => trivial)); (case aO => exact (by (with_reducible repeat (first | apply Kd.R_alloc | apply Kd.R_drewN | apply Kd.R_drew)); exact HO115.out)); (case aS => exact (below_size (by repeat (first | (with_reducible first | exact HB.out | apply below_alloc | apply pw_below_drewN | apply below_drew1) | exact HB.out)))); (case aL => have := LMc6.out; omega); intro v117 w9 ho hb hg hat; rw [← Ny116.out] at ho; have n0_ := Aside0.mk (hb); have n1_ := Aside0.mk (ho); clear HB; clear HO115; have HB := n0_; have HO118 := n1_; clear n0_ n1_; clear ho hb hg hat)))
      go_loopg [9, 10] k (fun kq v9 v10 w' => ∃ (x9_1 : List Int) (x10_1 : Int), v10 = .int .i64 x10_1 ∧ Aside0 (spec_HeapRight.l0 kq l0 l2 l3 x9_1 x10_1 = some r) ∧ Aside0 (kq ≤ k) ∧ Aside0 (Kd.R (Kd.int .i64) 3 w' w.heap.size (fun _ => True) v9 x9_1) ∧ Aside0 (Below w.heap.size w w'))
      case atStart => exact ⟨(y116), (0), (by first | rfl | (simp; done) | (simp [*]; done)), H', ⟨Nat.le_refl _⟩, ⟨by (with_reducible repeat (first | apply Kd.R_alloc | apply Kd.R_drewN | apply Kd.R_drew)); exact HO118.out⟩, ⟨by repeat (first | (with_reducible first | exact HB.out | apply below_alloc | apply pw_below_drewN | apply below_drew1) | exact HB.out)⟩⟩
      case round =>
        clear H'
        try clear c1
        try clear c2
        try clear p2
        try clear c3
        try clear c5
        try clear c5b0
        try clear c5b1
        try clear c5b2
        try clear c6
        obtain ⟨x9_1, x10_1, rfl, HA, HK1, HO_9, HB⟩ := hrel
        cases gk with
        | zero => exact absurd HA.out (by simp [spec_HeapRight.l0])
        | succ k1 =>
          have H := HA.out
          clear HA
          simp only [spec_HeapRight.l0] at H
          by_cases c10 : x10_1 < (l2.length : Int)
          · rw [if_pos c10] at H
            have c10b0 : decide (x10_1 < (l2.length : Int)) = true := decide_eq_true c10
            clear c10
            by_cases c11 : 0 ≤ x10_1
            · rw [if_pos c11] at H
              have c11b0 : decide (0 ≤ x10_1) = true := decide_eq_true c11
              clear c11
              by_cases c12 : ((rd_T28 l2 x10_1).f1) = 0
              · rw [if_pos c12] at H
                have c12b0 : (((rd_T28 l2 x10_1).f1) == 0) = true := beq_iff_eq.mpr c12
                have c12b1 : (((rd_T28 l2 x10_1).f1) != 0) = false := bne_eq_false_iff_eq.mpr c12
                clear c12
                by_cases c13 : x9_1.length < 17592186044416
                · rw [if_pos c13] at H
                  have LMc13 := Aside0.mk c13
                  clear c13
                  obtain ⟨y121, hy121⟩ : ∃ y_ : List Int, y_ = (x9_1 ++ [(rd_T28 l2 x10_1).f2]) := ⟨_, rfl⟩
                  replace H : (spec_HeapRight.l0 k1 l0 l2 l3 y121 (wrap64 (x10_1 + 1))) = some r := by first | (rw [hy121]; with_reducible exact H) | (have H2_ := (Option.bind_some _ _).symm.trans H; rw [hy121]; with_reducible exact H2_) | (have H2_ := (Option.bind_some _ _).symm.trans H; with_reducible exact H2_) | with_reducible exact H | (rw [hy121]; exact H) | exact H
                  have Ny121 := Aside0.mk hy121
                  clear hy121
                  have H' := Aside0.mk H
                  clear H
                  have p119 : 0 ≤ (x10_1 : Int) := of_decide_eq_true (by first | (with_reducible assumption) | assumption)
                  have q119 : x10_1 < (l2.length : Int) := of_decide_eq_true (by first | (with_reducible assumption) | assumption)
                  obtain ⟨ad119, e119, hx119_0, hx119_1, hx119_2, hx119_3⟩ := at_T28 HR2.out x10_1 p119 q119
                  cases e119
                  replace hx119_0 := (HB.out.cell (World.block_lt_of_cell? w _ hx119_0)).trans hx119_0
                  replace hx119_1 := (HB.out.cell (World.block_lt_of_cell? w _ hx119_1)).trans hx119_1
                  replace hx119_2 := (HB.out.cell (World.block_lt_of_cell? w _ hx119_2)).trans hx119_2
                  replace hx119_3 := (HB.out.cell (World.block_lt_of_cell? w _ hx119_3)).trans hx119_3
                  replace p119 := eq_true p119
                  replace q119 := eq_true q119
                  have p120 : 0 ≤ (x10_1 : Int) := of_decide_eq_true (by first | (with_reducible assumption) | assumption)
                  have q120 : x10_1 < (l2.length : Int) := of_decide_eq_true (by first | (with_reducible assumption) | assumption)
                  obtain ⟨ad120, e120, hx120_0, hx120_1, hx120_2, hx120_3⟩ := at_T28 HR2.out x10_1 p120 q120
                  obtain rfl : ad119 = ad120 := (by injection e120)
                  replace hx120_0 := (HB.out.cell (World.block_lt_of_cell? w _ hx120_0)).trans hx120_0
                  replace hx120_1 := (HB.out.cell (World.block_lt_of_cell? w _ hx120_1)).trans hx120_1
                  replace hx120_2 := (HB.out.cell (World.block_lt_of_cell? w _ hx120_2)).trans hx120_2
                  replace hx120_3 := (HB.out.cell (World.block_lt_of_cell? w _ hx120_3)).trans hx120_3
                  replace p120 := eq_true p120
                  replace q120 := eq_true q120
                  go_wp2_with (first | ((with_reducible refine gate_builtin (b := .append) (xs := #[.tmp 34, .tmp 40]) rfl ?_); at_builtin; refine Kd.R_append (Kd.int .i64) (w0 := w) w.heap.size rfl (.tmp 34) (.tmp 40) 22 3 (.int .i64 0) 8 rfl Try.underlying22 info3 rfl (by decide) (by omega) u9 x9_1 ((rd_T28 l2 x10_1).f2) [.int .i64 ((rd_T28 l2 x10_1).f2)] (fun _ => True) (fun _ => False) rfl rfl ?aP (fun _ hk => hk.elim) ?aF ?aO ?aB ?aS ?aL ?_; (case aP => exact rfl); (case aB => exact (by repeat (first | (with_reducible first | exact HB.out | apply below_alloc | apply pw_below_drewN | apply below_drew1) | exact HB.out))); (case aF => exact (fun _ _ => trivial)); (case aO => exact (by (with_reducible repeat (first | apply Kd.R_alloc | apply Kd.R_drewN | apply Kd.R_drew)); exact HO_9.out)); (case aS => exact (below_size (by repeat (first | (with_reducible first | exact HB.out | apply below_alloc | apply pw_below_drewN | apply below_drew1) | exact HB.out)))); (case aL => have := LMc13.out; omega); intro v122 w14 ho hb hg hat; rw [← Ny121.out] at ho; have n0_ := Aside0.mk (hb); have n1_ := Aside0.mk (ho); clear HB; clear HO_9; have HB := n0_; have HO123 := n1_; clear n0_ n1_; clear ho hb hg hat))
                  repeat (go_quiet (first | ((with_reducible refine gate_builtin (b := .append) (xs := #[.tmp 34, .tmp 40]) rfl ?_); at_builtin; refine Kd.R_append (Kd.int .i64) (w0 := w) w.heap.size rfl (.tmp 34) (.tmp 40) 22 3 (.int .i64 0) 8 rfl Try.underlying22 info3 rfl (by decide) (by omega) u9 x9_1 ((rd_T28 l2 x10_1).f2) [.int .i64 ((rd_T28 l2 x10_1).f2)] (fun _ => True) (fun _ => False) rfl rfl ?aP (fun _ hk => hk.elim) ?aF ?aO ?aB ?aS ?aL ?_; (case aP => exact rfl); (case aB => exact (by repeat (first | (with_reducible first | exact HB.out | apply below_alloc | apply pw_below_drewN | apply below_drew1) | exact HB.out))); (case aF => exact (fun _ _ => trivial)); (case aO => exact (by (with_reducible repeat (first | apply Kd.R_alloc | apply Kd.R_drewN | apply Kd.R_drew)); exact HO_9.out)); (case aS => exact (below_size (by repeat (first | (with_reducible first | exact HB.out | apply below_alloc | apply pw_below_drewN | apply below_drew1) | exact HB.out)))); (case aL => have := LMc13.out; omega); intro v122 w14 ho hb hg hat; rw [← Ny121.out] at ho; have n0_ := Aside0.mk (hb); have n1_ := Aside0.mk (ho); clear HB; clear HO_9; have HB := n0_; have HO123 := n1_; clear n0_ n1_; clear ho hb hg hat)); try go_wp2_with (first | ((with_reducible refine gate_builtin (b := .append) (xs := #[.tmp 34, .tmp 40]) rfl ?_); at_builtin; refine Kd.R_append (Kd.int .i64) (w0 := w) w.heap.size rfl (.tmp 34) (.tmp 40) 22 3 (.int .i64 0) 8 rfl Try.underlying22 info3 rfl (by decide) (by omega) u9 x9_1 ((rd_T28 l2 x10_1).f2) [.int .i64 ((rd_T28 l2 x10_1).f2)] (fun _ => True) (fun _ => False) rfl rfl ?aP (fun _ hk => hk.elim) ?aF ?aO ?aB ?aS ?aL ?_; (case aP => exact rfl); (case aB => exact (by repeat (first | (with_reducible first | exact HB.out | apply below_alloc | apply pw_below_drewN | apply below_drew1) | exact HB.out))); (case aF => exact (fun _ _ => trivial)); (case aO => exact (by (with_reducible repeat (first | apply Kd.R_alloc | apply Kd.R_drewN | apply Kd.R_drew)); exact HO_9.out)); (case aS => exact (below_size (by repeat (first | (with_reducible first | exact HB.out | apply below_alloc | apply pw_below_drewN | apply below_drew1) | exact HB.out)))); (case aL => have := LMc13.out; omega); intro v122 w14 ho hb hg hat; rw [← Ny121.out] at ho; have n0_ := Aside0.mk (hb); have n1_ := Aside0.mk (ho); clear HB; clear HO_9; have HB := n0_; have HO123 := n1_; clear n0_ n1_; clear ho hb hg hat)))
                  go_roundg k1
                  case measure => have := HK1.out; omega
                  case rel => exact ⟨(y121), (wrap64 (x10_1 + 1)), (by first | rfl | (simp; done) | (simp [*]; done)), H', ⟨by have := HK1.out; omega⟩, ⟨by (with_reducible repeat (first | apply Kd.R_alloc | apply Kd.R_drewN | apply Kd.R_drew)); exact HO123.out⟩, ⟨by repeat (first | (with_reducible first | exact HB.out | apply below_alloc | apply pw_below_drewN | apply below_drew1) | exact HB.out)⟩⟩
                · rw [if_neg c13] at H
                  exact absurd H (by simp)
              · rw [if_neg c12] at H
                have c12b0 : (((rd_T28 l2 x10_1).f1) == 0) = false := beq_eq_false_iff_ne.mpr c12
                have c12b1 : (((rd_T28 l2 x10_1).f1) != 0) = true := bne_iff_ne.mpr c12
                have HC15 := Aside0.mk H
                clear H
                have p119 : 0 ≤ (x10_1 : Int) := of_decide_eq_true (by first | (with_reducible assumption) | assumption)
                have q119 : x10_1 < (l2.length : Int) := of_decide_eq_true (by first | (with_reducible assumption) | assumption)
                obtain ⟨ad119, e119, hx119_0, hx119_1, hx119_2, hx119_3⟩ := at_T28 HR2.out x10_1 p119 q119
                cases e119
                replace hx119_0 := (HB.out.cell (World.block_lt_of_cell? w _ hx119_0)).trans hx119_0
                replace hx119_1 := (HB.out.cell (World.block_lt_of_cell? w _ hx119_1)).trans hx119_1
                replace hx119_2 := (HB.out.cell (World.block_lt_of_cell? w _ hx119_2)).trans hx119_2
                replace hx119_3 := (HB.out.cell (World.block_lt_of_cell? w _ hx119_3)).trans hx119_3
                replace p119 := eq_true p119
                replace q119 := eq_true q119
                go_upto_if 42 with (fail)
                repeat (go_quiet (fail); go_upto_if 42 with (fail))
                go_cut [42] (fun v42 wc => ∃ (kq : Nat) (x42_14 : Bool), v42 = .bool x42_14 ∧ Aside0 (spec_HeapRight.j1 kq l0 l2 l3 x9_1 x10_1 ((rd_T28 l2 x10_1).f1) x42_14 = some r) ∧ Aside0 (kq ≤ k1) ∧ Aside0 (Kd.R (Kd.int .i64) 3 wc w.heap.size (fun _ => True) u9 x9_1) ∧ Aside0 (Below w.heap.size w wc))
                case first =>
                  have H := HC15.out
                  clear HC15
                  by_cases c16 : ((rd_T28 l2 x10_1).f1) = 1
                  · rw [if_pos c16] at H
                    have c16b0 : (((rd_T28 l2 x10_1).f1) == 1) = true := beq_iff_eq.mpr c16
                    have c16b1 : (((rd_T28 l2 x10_1).f1) != 1) = false := bne_eq_false_iff_eq.mpr c16
                    clear c16
                    (first | rw [c16b0] | (simp only [i64_w, i32_w]; rw [c16b0]) | skip)
                    have H' := Aside0.mk H
                    clear H
                    go_wp2
                    repeat (go_quiet (fail); try go_wp2)
                    go_meet
                    case rel => exact ⟨_, ((((rd_T28 l2 x10_1).f1) == 1)), (by first | rfl | (simp; done) | (simp [*]; done)), H', ⟨by have := HK1.out; first | omega | exact Nat.le_refl _⟩, ⟨by (with_reducible repeat (first | apply Kd.R_alloc | apply Kd.R_drewN | apply Kd.R_drew)); exact HO_9.out⟩, ⟨by repeat (first | (with_reducible first | exact HB.out | apply below_alloc | apply pw_below_drewN | apply below_drew1) | exact HB.out)⟩⟩
                  · rw [if_neg c16] at H
                    have c16b0 : (((rd_T28 l2 x10_1).f1) == 1) = false := beq_eq_false_iff_ne.mpr c16
                    have c16b1 : (((rd_T28 l2 x10_1).f1) != 1) = true := bne_iff_ne.mpr c16
                    (first | rw [c16b0] | (simp only [i64_w, i32_w]; rw [c16b0]) | skip)
                    have H' := Aside0.mk H
                    clear H
                    go_wp2
                    repeat (go_quiet (fail); try go_wp2)
                    go_meet
                    case rel => exact ⟨_, ((((rd_T28 l2 x10_1).f1) == 2)), (by first | rfl | (simp; done) | (simp [*]; done)), H', ⟨by have := HK1.out; first | omega | exact Nat.le_refl _⟩, ⟨by (with_reducible repeat (first | apply Kd.R_alloc | apply Kd.R_drewN | apply Kd.R_drew)); exact HO_9.out⟩, ⟨by repeat (first | (with_reducible first | exact HB.out | apply below_alloc | apply pw_below_drewN | apply below_drew1) | exact HB.out)⟩⟩
                case rest =>
                  clear HC15
                  try clear c1
                  try clear p1
                  try clear q1
                  try clear hx1
                  try clear c2
                  try clear p2
                  try clear c3
                  try clear c5
                  try clear c5b0
                  try clear c5b1
                  try clear c5b2
                  try clear c6
                  try clear p6
                  try clear c10
                  try clear c10b0
                  try clear c11
                  try clear c11b0
                  try clear p11
                  try clear q11
                  try clear hx11
                  try clear c12
                  try clear c12b0
                  try clear c12b1
                  try clear p12
                  try clear q12
                  try clear hx12
                  try clear c13
                  try clear c16
                  try clear c16b0
                  try clear c16b1
                  try clear hx119_0
                  try clear hx119_1
                  try clear hx119_2
                  try clear hx119_3
                  try clear hx120_0
                  try clear hx120_1
                  try clear hx120_2
                  try clear hx120_3
                  try clear p119
                  try clear p120
                  try clear p2
                  try clear q119
                  try clear q120
                  obtain ⟨kq, x42_14, rfl, HA, HJ14, HO_9, HB⟩ := hcut
                  cases kq with
                  | zero => exact absurd HA.out (by simp [spec_HeapRight.j1])
                  | succ kj14 =>
                    have H := HA.out
                    clear HA
                    simp only [spec_HeapRight.j1] at H
                    by_cases c17 : x42_14 = true
                    · subst c17
                      have H1 : (if (x9_1.length : Int) = 0 then (if 0 ≤ x10_1 then (if x10_1 < (l3.length : Int) then (if (rd_T31 l3 x10_1).f1 = true then (some false) else (if ((rd_T31 l3 x10_1).f0) = 0 then (spec_HeapRight.l0 kj14 l0 l2 l3 x9_1 (wrap64 (x10_1 + 1))) else (some false))) else (none)) else (none)) else (spec_HeapRight.l1 kj14 l0 l2 l3 x9_1 x10_1 (-1) 0)) = some r := by rw [if_pos rfl] at H; exact H
                      clear H
                      have H := H1
                      clear H1
                      by_cases c18 : (x9_1.length : Int) = 0
                      · rw [if_pos c18] at H
                        have c18b0 : ((x9_1.length : Int) == 0) = true := beq_iff_eq.mpr c18
                        have c18b1 : ((x9_1.length : Int) != 0) = false := bne_eq_false_iff_eq.mpr c18
                        clear c18
                        by_cases c19 : 0 ≤ x10_1
                        · rw [if_pos c19] at H
                          have c19b0 : decide (0 ≤ x10_1) = true := decide_eq_true c19
                          clear c19
                          by_cases c20 : x10_1 < (l3.length : Int)
                          · rw [if_pos c20] at H
                            have c20b0 : decide (x10_1 < (l3.length : Int)) = true := decide_eq_true c20
                            clear c20
                            obtain ⟨bq21, hbq21⟩ : ∃ b_ : Bool, b_ = ((rd_T31 l3 x10_1).f1) := ⟨_, rfl⟩
                            replace H : (if bq21 = true then (some false) else (if ((rd_T31 l3 x10_1).f0) = 0 then (spec_HeapRight.l0 kj14 l0 l2 l3 x9_1 (wrap64 (x10_1 + 1))) else (some false))) = some r := by rw [← hbq21] at H; exact H
                            have Nbq21 := Aside0.mk hbq21
                            clear hbq21
                            by_cases c22 : bq21 = true
                            · subst c22
                              have H1 : (some false) = some r := by rw [if_pos rfl] at H; exact H
                              clear H
                              have H := H1
                              clear H1
                              obtain rfl := Option.some.inj H
                              obtain ⟨Ao23, co23, eo23⟩ := Kd.R_slice HO_9.out
                              subst eo23
                              have p124 : 0 ≤ (x10_1 : Int) := of_decide_eq_true (by first | (with_reducible assumption) | assumption)
                              have q124 : x10_1 < (l3.length : Int) := of_decide_eq_true (by first | (with_reducible assumption) | assumption)
                              obtain ⟨ad124, A124_2, c124_2, A124_3, c124_3, e124, hx124_0, hx124_1, hx124_2, hx124_3, hl124_2, hi124_2, hl124_3, hi124_3⟩ := at_T31 HR3.out x10_1 p124 q124
                              (try rw [← Nbq21.out] at hx124_1)
                              cases e124
                              replace hx124_0 := (HB.out.cell (World.block_lt_of_cell? w _ hx124_0)).trans hx124_0
                              replace hx124_1 := (HB.out.cell (World.block_lt_of_cell? w _ hx124_1)).trans hx124_1
                              replace hx124_2 := (HB.out.cell (World.block_lt_of_cell? w _ hx124_2)).trans hx124_2
                              replace hx124_3 := (HB.out.cell (World.block_lt_of_cell? w _ hx124_3)).trans hx124_3
                              have HR124_2 := Aside0.mk hi124_2
                              have HC124_2 := Aside0.mk hl124_2
                              clear hi124_2 hl124_2
                              have HR124_3 := Aside0.mk hi124_3
                              have HC124_3 := Aside0.mk hl124_3
                              clear hi124_3 hl124_3
                              replace p124 := eq_true p124
                              replace q124 := eq_true q124
                              go_wp2
                              repeat (go_quiet (fail); try go_wp2)
                              go_ret
                              exact ⟨by first | rfl | (simp [errW_none, errW_some] <;> rfl) | (simp [*, errW_none, errW_some] <;> rfl), by repeat (first | (with_reducible first | exact HB.out | apply below_alloc | apply pw_below_drewN | apply below_drew1) | exact HB.out)⟩
                            · replace c22 := Bool.eq_false_iff.mpr c22
                              subst c22
                              have H1 : (if ((rd_T31 l3 x10_1).f0) = 0 then (spec_HeapRight.l0 kj14 l0 l2 l3 x9_1 (wrap64 (x10_1 + 1))) else (some false)) = some r := by rw [if_neg (show ¬ (false = true) by decide)] at H; exact H
                              clear H
                              have H := H1
                              clear H1
                              by_cases c24 : ((rd_T31 l3 x10_1).f0) = 0
                              · rw [if_pos c24] at H
                                have c24b0 : (((rd_T31 l3 x10_1).f0) == 0) = true := beq_iff_eq.mpr c24
                                have c24b1 : (((rd_T31 l3 x10_1).f0) != 0) = false := bne_eq_false_iff_eq.mpr c24
                                clear c24
                                have H' := Aside0.mk H
                                clear H
                                obtain ⟨Ao25, co25, eo25⟩ := Kd.R_slice HO_9.out
                                subst eo25
                                have p124 : 0 ≤ (x10_1 : Int) := of_decide_eq_true (by first | (with_reducible assumption) | assumption)
                                have q124 : x10_1 < (l3.length : Int) := of_decide_eq_true (by first | (with_reducible assumption) | assumption)
                                obtain ⟨ad124, A124_2, c124_2, A124_3, c124_3, e124, hx124_0, hx124_1, hx124_2, hx124_3, hl124_2, hi124_2, hl124_3, hi124_3⟩ := at_T31 HR3.out x10_1 p124 q124
                                (try rw [← Nbq21.out] at hx124_1)
                                cases e124
                                replace hx124_0 := (HB.out.cell (World.block_lt_of_cell? w _ hx124_0)).trans hx124_0
                                replace hx124_1 := (HB.out.cell (World.block_lt_of_cell? w _ hx124_1)).trans hx124_1
                                replace hx124_2 := (HB.out.cell (World.block_lt_of_cell? w _ hx124_2)).trans hx124_2
                                replace hx124_3 := (HB.out.cell (World.block_lt_of_cell? w _ hx124_3)).trans hx124_3
                                have HR124_2 := Aside0.mk hi124_2
                                have HC124_2 := Aside0.mk hl124_2
                                clear hi124_2 hl124_2
                                have HR124_3 := Aside0.mk hi124_3
                                have HC124_3 := Aside0.mk hl124_3
                                clear hi124_3 hl124_3
                                replace p124 := eq_true p124
                                replace q124 := eq_true q124
                                have p125 : 0 ≤ (x10_1 : Int) := of_decide_eq_true (by first | (with_reducible assumption) | assumption)
                                have q125 : x10_1 < (l3.length : Int) := of_decide_eq_true (by first | (with_reducible assumption) | assumption)
                                obtain ⟨ad125, A125_2, c125_2, A125_3, c125_3, e125, hx125_0, hx125_1, hx125_2, hx125_3, hl125_2, hi125_2, hl125_3, hi125_3⟩ := at_T31 HR3.out x10_1 p125 q125
                                (try rw [← Nbq21.out] at hx125_1)
                                obtain rfl : ad124 = ad125 := (by injection e125)
                                replace hx125_0 := (HB.out.cell (World.block_lt_of_cell? w _ hx125_0)).trans hx125_0
                                replace hx125_1 := (HB.out.cell (World.block_lt_of_cell? w _ hx125_1)).trans hx125_1
                                replace hx125_2 := (HB.out.cell (World.block_lt_of_cell? w _ hx125_2)).trans hx125_2
                                replace hx125_3 := (HB.out.cell (World.block_lt_of_cell? w _ hx125_3)).trans hx125_3
                                have HR125_2 := Aside0.mk hi125_2
                                have HC125_2 := Aside0.mk hl125_2
                                clear hi125_2 hl125_2
                                have HR125_3 := Aside0.mk hi125_3
                                have HC125_3 := Aside0.mk hl125_3
                                clear hi125_3 hl125_3
                                replace p125 := eq_true p125
                                replace q125 := eq_true q125
                                have ea_ := Option.some.inj (hx124_2.symm.trans hx125_2)
                                injection ea_ with ea_ en_ ec_
                                subst ea_
                                subst ec_
                                clear en_
                                have ea_ := Option.some.inj (hx124_3.symm.trans hx125_3)
                                injection ea_ with ea_ en_ ec_
                                subst ea_
                                subst ec_
                                clear en_
                                go_wp2
                                repeat (go_quiet (fail); try go_wp2)
                                go_roundg kj14
                                case measure => have := HK1.out; have := HJ14.out; omega
                                case rel => exact ⟨(x9_1), (wrap64 (x10_1 + 1)), (by first | rfl | (simp; done) | (simp [*]; done)), H', ⟨by have := HK1.out; have := HJ14.out; omega⟩, ⟨by (with_reducible repeat (first | apply Kd.R_alloc | apply Kd.R_drewN | apply Kd.R_drew)); exact HO_9.out⟩, ⟨by repeat (first | (with_reducible first | exact HB.out | apply below_alloc | apply pw_below_drewN | apply below_drew1) | exact HB.out)⟩⟩
                              · rw [if_neg c24] at H
                                have c24b0 : (((rd_T31 l3 x10_1).f0) == 0) = false := beq_eq_false_iff_ne.mpr c24
                                have c24b1 : (((rd_T31 l3 x10_1).f0) != 0) = true := bne_iff_ne.mpr c24
                                obtain rfl := Option.some.inj H
                                obtain ⟨Ao26, co26, eo26⟩ := Kd.R_slice HO_9.out
                                subst eo26
                                have p124 : 0 ≤ (x10_1 : Int) := of_decide_eq_true (by first | (with_reducible assumption) | assumption)
                                have q124 : x10_1 < (l3.length : Int) := of_decide_eq_true (by first | (with_reducible assumption) | assumption)
                                obtain ⟨ad124, A124_2, c124_2, A124_3, c124_3, e124, hx124_0, hx124_1, hx124_2, hx124_3, hl124_2, hi124_2, hl124_3, hi124_3⟩ := at_T31 HR3.out x10_1 p124 q124
                                (try rw [← Nbq21.out] at hx124_1)
                                cases e124
                                replace hx124_0 := (HB.out.cell (World.block_lt_of_cell? w _ hx124_0)).trans hx124_0
                                replace hx124_1 := (HB.out.cell (World.block_lt_of_cell? w _ hx124_1)).trans hx124_1
                                replace hx124_2 := (HB.out.cell (World.block_lt_of_cell? w _ hx124_2)).trans hx124_2
                                replace hx124_3 := (HB.out.cell (World.block_lt_of_cell? w _ hx124_3)).trans hx124_3
                                have HR124_2 := Aside0.mk hi124_2
                                have HC124_2 := Aside0.mk hl124_2
                                clear hi124_2 hl124_2
                                have HR124_3 := Aside0.mk hi124_3
                                have HC124_3 := Aside0.mk hl124_3
                                clear hi124_3 hl124_3
                                replace p124 := eq_true p124
                                replace q124 := eq_true q124
                                have p125 : 0 ≤ (x10_1 : Int) := of_decide_eq_true (by first | (with_reducible assumption) | assumption)
                                have q125 : x10_1 < (l3.length : Int) := of_decide_eq_true (by first | (with_reducible assumption) | assumption)
                                obtain ⟨ad125, A125_2, c125_2, A125_3, c125_3, e125, hx125_0, hx125_1, hx125_2, hx125_3, hl125_2, hi125_2, hl125_3, hi125_3⟩ := at_T31 HR3.out x10_1 p125 q125
                                (try rw [← Nbq21.out] at hx125_1)
                                obtain rfl : ad124 = ad125 := (by injection e125)
                                replace hx125_0 := (HB.out.cell (World.block_lt_of_cell? w _ hx125_0)).trans hx125_0
                                replace hx125_1 := (HB.out.cell (World.block_lt_of_cell? w _ hx125_1)).trans hx125_1
                                replace hx125_2 := (HB.out.cell (World.block_lt_of_cell? w _ hx125_2)).trans hx125_2
                                replace hx125_3 := (HB.out.cell (World.block_lt_of_cell? w _ hx125_3)).trans hx125_3
                                have HR125_2 := Aside0.mk hi125_2
                                have HC125_2 := Aside0.mk hl125_2
                                clear hi125_2 hl125_2
                                have HR125_3 := Aside0.mk hi125_3
                                have HC125_3 := Aside0.mk hl125_3
                                clear hi125_3 hl125_3
                                replace p125 := eq_true p125
                                replace q125 := eq_true q125
                                have ea_ := Option.some.inj (hx124_2.symm.trans hx125_2)
                                injection ea_ with ea_ en_ ec_
                                subst ea_
                                subst ec_
                                clear en_
                                have ea_ := Option.some.inj (hx124_3.symm.trans hx125_3)
                                injection ea_ with ea_ en_ ec_
                                subst ea_
                                subst ec_
                                clear en_
                                go_wp2
                                repeat (go_quiet (fail); try go_wp2)
                                go_ret
                                exact ⟨by first | rfl | (simp [errW_none, errW_some] <;> rfl) | (simp [*, errW_none, errW_some] <;> rfl), by repeat (first | (with_reducible first | exact HB.out | apply below_alloc | apply pw_below_drewN | apply below_drew1) | exact HB.out)⟩
                          · rw [if_neg c20] at H
                            exact absurd H (by simp)
                        · rw [if_neg c19] at H
                          exact absurd H (by simp)
                      · rw [if_neg c18] at H
                        have c18b0 : ((x9_1.length : Int) == 0) = false := beq_eq_false_iff_ne.mpr c18
                        have c18b1 : ((x9_1.length : Int) != 0) = true := bne_iff_ne.mpr c18
                        have c18b2 : ¬ (x9_1 = []) := fun h_ => c18 (by rw [h_]; rfl)
                        have H' := Aside0.mk H
                        clear H
                        obtain ⟨Ao27, co27, eo27⟩ := Kd.R_slice HO_9.out
                        subst eo27
                        go_wp2
                        repeat (go_quiet (fail); try go_wp2)
                        go_loopg [11, 12] kj14 (fun kq v11 v12 w' => ∃ (x11_3 : Int) (x12_3 : Int), v11 = .int .i64 x11_3 ∧ v12 = .int .i64 x12_3 ∧ Aside0 (spec_HeapRight.l1 kq l0 l2 l3 x9_1 x10_1 x11_3 x12_3 = some r) ∧ Aside0 (kq ≤ kj14) ∧ Aside0 (Kd.R (Kd.int .i64) 3 w' w.heap.size (fun _ => True) (.slice Ao27 x9_1.length co27) x9_1) ∧ Aside0 (Below w.heap.size w w'))
                        case atStart => exact ⟨((-1)), (0), (by first | rfl | (simp; done) | (simp [*]; done)), (by first | rfl | (simp; done) | (simp [*]; done)), H', ⟨Nat.le_refl _⟩, ⟨by (with_reducible repeat (first | apply Kd.R_alloc | apply Kd.R_drewN | apply Kd.R_drew)); exact HO_9.out⟩, ⟨by repeat (first | (with_reducible first | exact HB.out | apply below_alloc | apply pw_below_drewN | apply below_drew1) | exact HB.out)⟩⟩
                        case round =>
                          clear H'
                          try clear c1
                          try clear p1
                          try clear q1
                          try clear hx1
                          try clear c2
                          try clear p2
                          try clear q2
                          try clear c3
                          try clear c5
                          try clear c5b0
                          try clear c5b1
                          try clear c5b2
                          try clear c6
                          try clear p6
                          try clear c10
                          try clear c10b0
                          try clear c11
                          try clear c11b0
                          try clear p11
                          try clear q11
                          try clear hx11
                          try clear c12
                          try clear c12b0
                          try clear c12b1
                          try clear p12
                          try clear q12
                          try clear hx12
                          try clear c13
                          try clear c16
                          try clear c16b0
                          try clear c16b1
                          try clear c17
                          try clear c18
                          try clear c18b0
                          try clear c18b1
                          try clear c18b2
                          try clear c19
                          try clear c19b0
                          try clear c20
                          try clear c20b0
                          try clear q21
                          try clear c22
                          try clear c24
                          try clear c24b0
                          try clear c24b1
                          try clear hx119_0
                          try clear hx119_1
                          try clear hx119_2
                          try clear hx119_3
                          try clear hx120_0
                          try clear hx120_1
                          try clear hx120_2
                          try clear hx120_3
                          try clear hx124_0
                          try clear hx124_1
                          try clear hx124_2
                          try clear hx124_3
                          try clear hx125_0
                          try clear hx125_1
                          try clear hx125_2
                          try clear hx125_3
                          try clear p1
                          try clear p11
                          try clear p119
                          try clear p12
                          try clear p120
                          try clear p124
                          try clear p125
                          try clear p2
                          try clear p6
                          try clear q1
                          try clear q11
                          try clear q119
                          try clear q12
                          try clear q120
                          try clear q124
                          try clear q125
                          obtain ⟨x11_3, x12_3, rfl, rfl, HA, HK3, HO_9, HB⟩ := hrel
                          cases gk with
                          | zero => exact absurd HA.out (by simp [spec_HeapRight.l1])
                          | succ k3 =>
                            have H := HA.out
                            clear HA
                            simp only [spec_HeapRight.l1] at H
                            by_cases c28 : x12_3 < (x9_1.length : Int)
                            · rw [if_pos c28] at H
                              have c28b0 : decide (x12_3 < (x9_1.length : Int)) = true := decide_eq_true c28
                              clear c28
                              by_cases c29 : 0 ≤ x12_3
                              · rw [if_pos c29] at H
                                have c29b0 : decide (0 ≤ x12_3) = true := decide_eq_true c29
                                clear c29
                                replace H := Option.bind_eq_some_iff.mp H
                                obtain ⟨t127, A300, H⟩ := H
                                replace H : (if 0 ≤ x10_1 then (if x10_1 < (l3.length : Int) then ((spec_Rank.f l0 ((rd_T31 l3 x10_1).f0)).bind fun t129 => (if t127 < t129 then (some false) else (if (rd x9_1 x12_3) = ((rd_T31 l3 x10_1).f0) then (spec_HeapRight.l1 k3 l0 l2 l3 x9_1 x10_1 x12_3 (wrap64 (x12_3 + 1))) else (spec_HeapRight.l1 k3 l0 l2 l3 x9_1 x10_1 x11_3 (wrap64 (x12_3 + 1)))))) else (none)) else (none)) = some r := H
                                have A30 := Aside0.mk A300
                                clear A300
                                by_cases c31 : 0 ≤ x10_1
                                · rw [if_pos c31] at H
                                  have c31b0 : decide (0 ≤ x10_1) = true := decide_eq_true c31
                                  clear c31
                                  by_cases c32 : x10_1 < (l3.length : Int)
                                  · rw [if_pos c32] at H
                                    have c32b0 : decide (x10_1 < (l3.length : Int)) = true := decide_eq_true c32
                                    clear c32
                                    replace H := Option.bind_eq_some_iff.mp H
                                    obtain ⟨t129, A330, H⟩ := H
                                    replace H : (if t127 < t129 then (some false) else (if (rd x9_1 x12_3) = ((rd_T31 l3 x10_1).f0) then (spec_HeapRight.l1 k3 l0 l2 l3 x9_1 x10_1 x12_3 (wrap64 (x12_3 + 1))) else (spec_HeapRight.l1 k3 l0 l2 l3 x9_1 x10_1 x11_3 (wrap64 (x12_3 + 1))))) = some r := H
                                    have A33 := Aside0.mk A330
                                    clear A330
                                    by_cases c34 : t127 < t129
                                    · rw [if_pos c34] at H
                                      have c34b0 : decide (t127 < t129) = true := decide_eq_true c34
                                      clear c34
                                      obtain rfl := Option.some.inj H
                                      have p126 : 0 ≤ (x12_3 : Int) := of_decide_eq_true (by first | (with_reducible assumption) | assumption)
                                      have q126 : x12_3 < (x9_1.length : Int) := of_decide_eq_true (by first | (with_reducible assumption) | assumption)
                                      obtain ⟨ad126, e126, hx126_0⟩ := Kd.at_int (Kd.R_reads' HO_9.out).2.2 x12_3 p126 q126
                                      cases e126
                                      replace p126 := eq_true p126
                                      replace q126 := eq_true q126
                                      go_wp2_with (first | (go_at_call 15; (with_reducible refine (spec_Rank.calls _ _ l0 (rd x9_1 x12_3) t127 _ ?side1 ?side2 A30.out).mono ?_); (case side1 => repeat (first | exact (Kd.C_below HR0.out HB.out) | (with_reducible refine Kd.C_alloc ?_ _) | (with_reducible refine Kd.C_drewN ?_ _) | (with_reducible refine Kd.C_drew ?_))); (case side2 => exact HC0.out); rintro e w' ⟨rfl, ⟨nd, rfl⟩⟩; (try first | exact ⟨rfl, _, World.drewN_drewN _ _ _⟩ | exact ⟨rfl, _, Eq.trans (World.drewN_drewN _ _ _) (congrArg (World.drewN _) (Nat.add_assoc _ _ _))⟩); have p128 : 0 ≤ (x10_1 : Int) := of_decide_eq_true (by first | (with_reducible assumption) | assumption); have q128 : x10_1 < (l3.length : Int) := of_decide_eq_true (by first | (with_reducible assumption) | assumption); obtain ⟨ad128, A128_2, c128_2, A128_3, c128_3, e128, hx128_0, hx128_1, hx128_2, hx128_3, hl128_2, hi128_2, hl128_3, hi128_3⟩ := at_T31 HR3.out x10_1 p128 q128; cases e128; replace hx128_0 := (HB.out.cell (World.block_lt_of_cell? w _ hx128_0)).trans hx128_0; replace hx128_1 := (HB.out.cell (World.block_lt_of_cell? w _ hx128_1)).trans hx128_1; replace hx128_2 := (HB.out.cell (World.block_lt_of_cell? w _ hx128_2)).trans hx128_2; replace hx128_3 := (HB.out.cell (World.block_lt_of_cell? w _ hx128_3)).trans hx128_3; have HR128_2 := Aside0.mk hi128_2; have HC128_2 := Aside0.mk hl128_2; clear hi128_2 hl128_2; have HR128_3 := Aside0.mk hi128_3; have HC128_3 := Aside0.mk hl128_3; clear hi128_3 hl128_3; replace p128 := eq_true p128; replace q128 := eq_true q128) | (go_at_call 15; (with_reducible refine (spec_Rank.calls _ _ l0 ((rd_T31 l3 x10_1).f0) t129 _ ?side1 ?side2 A33.out).mono ?_); (case side1 => repeat (first | exact (Kd.C_below HR0.out (by repeat (first | (with_reducible first | exact HB.out | apply below_alloc | apply pw_below_drewN | apply below_drew1) | exact HB.out))) | (with_reducible refine Kd.C_alloc ?_ _) | (with_reducible refine Kd.C_drewN ?_ _) | (with_reducible refine Kd.C_drew ?_))); (case side2 => exact HC0.out); rintro e w' ⟨rfl, ⟨nd, rfl⟩⟩; (try first | exact ⟨rfl, _, World.drewN_drewN _ _ _⟩ | exact ⟨rfl, _, Eq.trans (World.drewN_drewN _ _ _) (congrArg (World.drewN _) (Nat.add_assoc _ _ _))⟩)))
                                      repeat (go_quiet (first | (go_at_call 15; (with_reducible refine (spec_Rank.calls _ _ l0 (rd x9_1 x12_3) t127 _ ?side1 ?side2 A30.out).mono ?_); (case side1 => repeat (first | exact (Kd.C_below HR0.out HB.out) | (with_reducible refine Kd.C_alloc ?_ _) | (with_reducible refine Kd.C_drewN ?_ _) | (with_reducible refine Kd.C_drew ?_))); (case side2 => exact HC0.out); rintro e w' ⟨rfl, ⟨nd, rfl⟩⟩; (try first | exact ⟨rfl, _, World.drewN_drewN _ _ _⟩ | exact ⟨rfl, _, Eq.trans (World.drewN_drewN _ _ _) (congrArg (World.drewN _) (Nat.add_assoc _ _ _))⟩); have p128 : 0 ≤ (x10_1 : Int) := of_decide_eq_true (by first | (with_reducible assumption) | assumption); have q128 : x10_1 < (l3.length : Int) := of_decide_eq_true (by first | (with_reducible assumption) | assumption); obtain ⟨ad128, A128_2, c128_2, A128_3, c128_3, e128, hx128_0, hx128_1, hx128_2, hx128_3, hl128_2, hi128_2, hl128_3, hi128_3⟩ := at_T31 HR3.out x10_1 p128 q128; cases e128; replace hx128_0 := (HB.out.cell (World.block_lt_of_cell? w _ hx128_0)).trans hx128_0; replace hx128_1 := (HB.out.cell (World.block_lt_of_cell? w _ hx128_1)).trans hx128_1; replace hx128_2 := (HB.out.cell (World.block_lt_of_cell? w _ hx128_2)).trans hx128_2; replace hx128_3 := (HB.out.cell (World.block_lt_of_cell? w _ hx128_3)).trans hx128_3; have HR128_2 := Aside0.mk hi128_2; have HC128_2 := Aside0.mk hl128_2; clear hi128_2 hl128_2; have HR128_3 := Aside0.mk hi128_3; have HC128_3 := Aside0.mk hl128_3; clear hi128_3 hl128_3; replace p128 := eq_true p128; replace q128 := eq_true q128) | (go_at_call 15; (with_reducible refine (spec_Rank.calls _ _ l0 ((rd_T31 l3 x10_1).f0) t129 _ ?side1 ?side2 A33.out).mono ?_); (case side1 => repeat (first | exact (Kd.C_below HR0.out (by repeat (first | (with_reducible first | exact HB.out | apply below_alloc | apply pw_below_drewN | apply below_drew1) | exact HB.out))) | (with_reducible refine Kd.C_alloc ?_ _) | (with_reducible refine Kd.C_drewN ?_ _) | (with_reducible refine Kd.C_drew ?_))); (case side2 => exact HC0.out); rintro e w' ⟨rfl, ⟨nd, rfl⟩⟩; (try first | exact ⟨rfl, _, World.drewN_drewN _ _ _⟩ | exact ⟨rfl, _, Eq.trans (World.drewN_drewN _ _ _) (congrArg (World.drewN _) (Nat.add_assoc _ _ _))⟩))); try go_wp2_with (first | (go_at_call 15; (with_reducible refine (spec_Rank.calls _ _ l0 (rd x9_1 x12_3) t127 _ ?side1 ?side2 A30.out).mono ?_); (case side1 => repeat (first | exact (Kd.C_below HR0.out HB.out) | (with_reducible refine Kd.C_alloc ?_ _) | (with_reducible refine Kd.C_drewN ?_ _) | (with_reducible refine Kd.C_drew ?_))); (case side2 => exact HC0.out); rintro e w' ⟨rfl, ⟨nd, rfl⟩⟩; (try first | exact ⟨rfl, _, World.drewN_drewN _ _ _⟩ | exact ⟨rfl, _, Eq.trans (World.drewN_drewN _ _ _) (congrArg (World.drewN _) (Nat.add_assoc _ _ _))⟩); have p128 : 0 ≤ (x10_1 : Int) := of_decide_eq_true (by first | (with_reducible assumption) | assumption); have q128 : x10_1 < (l3.length : Int) := of_decide_eq_true (by first | (with_reducible assumption) | assumption); obtain ⟨ad128, A128_2, c128_2, A128_3, c128_3, e128, hx128_0, hx128_1, hx128_2, hx128_3, hl128_2, hi128_2, hl128_3, hi128_3⟩ := at_T31 HR3.out x10_1 p128 q128; cases e128; replace hx128_0 := (HB.out.cell (World.block_lt_of_cell? w _ hx128_0)).trans hx128_0; replace hx128_1 := (HB.out.cell (World.block_lt_of_cell? w _ hx128_1)).trans hx128_1; replace hx128_2 := (HB.out.cell (World.block_lt_of_cell? w _ hx128_2)).trans hx128_2; replace hx128_3 := (HB.out.cell (World.block_lt_of_cell? w _ hx128_3)).trans hx128_3; have HR128_2 := Aside0.mk hi128_2; have HC128_2 := Aside0.mk hl128_2; clear hi128_2 hl128_2; have HR128_3 := Aside0.mk hi128_3; have HC128_3 := Aside0.mk hl128_3; clear hi128_3 hl128_3; replace p128 := eq_true p128; replace q128 := eq_true q128) | (go_at_call 15; (with_reducible refine (spec_Rank.calls _ _ l0 ((rd_T31 l3 x10_1).f0) t129 _ ?side1 ?side2 A33.out).mono ?_); (case side1 => repeat (first | exact (Kd.C_below HR0.out (by repeat (first | (with_reducible first | exact HB.out | apply below_alloc | apply pw_below_drewN | apply below_drew1) | exact HB.out))) | (with_reducible refine Kd.C_alloc ?_ _) | (with_reducible refine Kd.C_drewN ?_ _) | (with_reducible refine Kd.C_drew ?_))); (case side2 => exact HC0.out); rintro e w' ⟨rfl, ⟨nd, rfl⟩⟩; (try first | exact ⟨rfl, _, World.drewN_drewN _ _ _⟩ | exact ⟨rfl, _, Eq.trans (World.drewN_drewN _ _ _) (congrArg (World.drewN _) (Nat.add_assoc _ _ _))⟩))))
                                      go_ret
                                      exact ⟨by first | rfl | (simp [errW_none, errW_some] <;> rfl) | (simp [*, errW_none, errW_some] <;> rfl), by repeat (first | (with_reducible first | exact HB.out | apply below_alloc | apply pw_below_drewN | apply below_drew1) | exact HB.out)⟩
                                    · rw [if_neg c34] at H
                                      have c34b0 : decide (t127 < t129) = false := decide_eq_false c34
                                      clear c34
                                      by_cases c35 : (rd x9_1 x12_3) = ((rd_T31 l3 x10_1).f0)
                                      · rw [if_pos c35] at H
                                        have c35b0 : ((rd x9_1 x12_3) == ((rd_T31 l3 x10_1).f0)) = true := beq_iff_eq.mpr c35
                                        have c35b1 : ((rd x9_1 x12_3) != ((rd_T31 l3 x10_1).f0)) = false := bne_eq_false_iff_eq.mpr c35
                                        clear c35
                                        have H' := Aside0.mk H
                                        clear H
                                        have p126 : 0 ≤ (x12_3 : Int) := of_decide_eq_true (by first | (with_reducible assumption) | assumption)
                                        have q126 : x12_3 < (x9_1.length : Int) := of_decide_eq_true (by first | (with_reducible assumption) | assumption)
                                        obtain ⟨ad126, e126, hx126_0⟩ := Kd.at_int (Kd.R_reads' HO_9.out).2.2 x12_3 p126 q126
                                        cases e126
                                        replace p126 := eq_true p126
                                        replace q126 := eq_true q126
                                        go_wp2_with (first | (go_at_call 15; (with_reducible refine (spec_Rank.calls _ _ l0 (rd x9_1 x12_3) t127 _ ?side1 ?side2 A30.out).mono ?_); (case side1 => repeat (first | exact (Kd.C_below HR0.out HB.out) | (with_reducible refine Kd.C_alloc ?_ _) | (with_reducible refine Kd.C_drewN ?_ _) | (with_reducible refine Kd.C_drew ?_))); (case side2 => exact HC0.out); rintro e w' ⟨rfl, ⟨nd, rfl⟩⟩; (try first | exact ⟨rfl, _, World.drewN_drewN _ _ _⟩ | exact ⟨rfl, _, Eq.trans (World.drewN_drewN _ _ _) (congrArg (World.drewN _) (Nat.add_assoc _ _ _))⟩); have p128 : 0 ≤ (x10_1 : Int) := of_decide_eq_true (by first | (with_reducible assumption) | assumption); have q128 : x10_1 < (l3.length : Int) := of_decide_eq_true (by first | (with_reducible assumption) | assumption); obtain ⟨ad128, A128_2, c128_2, A128_3, c128_3, e128, hx128_0, hx128_1, hx128_2, hx128_3, hl128_2, hi128_2, hl128_3, hi128_3⟩ := at_T31 HR3.out x10_1 p128 q128; cases e128; replace hx128_0 := (HB.out.cell (World.block_lt_of_cell? w _ hx128_0)).trans hx128_0; replace hx128_1 := (HB.out.cell (World.block_lt_of_cell? w _ hx128_1)).trans hx128_1; replace hx128_2 := (HB.out.cell (World.block_lt_of_cell? w _ hx128_2)).trans hx128_2; replace hx128_3 := (HB.out.cell (World.block_lt_of_cell? w _ hx128_3)).trans hx128_3; have HR128_2 := Aside0.mk hi128_2; have HC128_2 := Aside0.mk hl128_2; clear hi128_2 hl128_2; have HR128_3 := Aside0.mk hi128_3; have HC128_3 := Aside0.mk hl128_3; clear hi128_3 hl128_3; replace p128 := eq_true p128; replace q128 := eq_true q128) | (go_at_call 15; (with_reducible refine (spec_Rank.calls _ _ l0 ((rd_T31 l3 x10_1).f0) t129 _ ?side1 ?side2 A33.out).mono ?_); (case side1 => repeat (first | exact (Kd.C_below HR0.out (by repeat (first | (with_reducible first | exact HB.out | apply below_alloc | apply pw_below_drewN | apply below_drew1) | exact HB.out))) | (with_reducible refine Kd.C_alloc ?_ _) | (with_reducible refine Kd.C_drewN ?_ _) | (with_reducible refine Kd.C_drew ?_))); (case side2 => exact HC0.out); rintro e w' ⟨rfl, ⟨nd, rfl⟩⟩; (try first | exact ⟨rfl, _, World.drewN_drewN _ _ _⟩ | exact ⟨rfl, _, Eq.trans (World.drewN_drewN _ _ _) (congrArg (World.drewN _) (Nat.add_assoc _ _ _))⟩); have p130 : 0 ≤ (x12_3 : Int) := of_decide_eq_true (by first | (with_reducible assumption) | assumption); have q130 : x12_3 < (x9_1.length : Int) := of_decide_eq_true (by first | (with_reducible assumption) | assumption); obtain ⟨ad130, e130, hx130_0⟩ := Kd.at_int (Kd.R_reads' HO_9.out).2.2 x12_3 p130 q130; obtain rfl : ad126 = ad130 := (by injection e130); replace p130 := eq_true p130; replace q130 := eq_true q130; have p131 : 0 ≤ (x10_1 : Int) := of_decide_eq_true (by first | (with_reducible assumption) | assumption); have q131 : x10_1 < (l3.length : Int) := of_decide_eq_true (by first | (with_reducible assumption) | assumption); obtain ⟨ad131, A131_2, c131_2, A131_3, c131_3, e131, hx131_0, hx131_1, hx131_2, hx131_3, hl131_2, hi131_2, hl131_3, hi131_3⟩ := at_T31 HR3.out x10_1 p131 q131; obtain rfl : ad128 = ad131 := (by injection e131); replace hx131_0 := (HB.out.cell (World.block_lt_of_cell? w _ hx131_0)).trans hx131_0; replace hx131_1 := (HB.out.cell (World.block_lt_of_cell? w _ hx131_1)).trans hx131_1; replace hx131_2 := (HB.out.cell (World.block_lt_of_cell? w _ hx131_2)).trans hx131_2; replace hx131_3 := (HB.out.cell (World.block_lt_of_cell? w _ hx131_3)).trans hx131_3; have HR131_2 := Aside0.mk hi131_2; have HC131_2 := Aside0.mk hl131_2; clear hi131_2 hl131_2; have HR131_3 := Aside0.mk hi131_3; have HC131_3 := Aside0.mk hl131_3; clear hi131_3 hl131_3; replace p131 := eq_true p131; replace q131 := eq_true q131; have ea_ := Option.some.inj (hx128_2.symm.trans hx131_2); injection ea_ with ea_ en_ ec_; subst ea_; subst ec_; clear en_; have ea_ := Option.some.inj (hx128_3.symm.trans hx131_3); injection ea_ with ea_ en_ ec_; subst ea_; subst ec_; clear en_))
                                        repeat (go_quiet (first | (go_at_call 15; (with_reducible refine (spec_Rank.calls _ _ l0 (rd x9_1 x12_3) t127 _ ?side1 ?side2 A30.out).mono ?_); (case side1 => repeat (first | exact (Kd.C_below HR0.out HB.out) | (with_reducible refine Kd.C_alloc ?_ _) | (with_reducible refine Kd.C_drewN ?_ _) | (with_reducible refine Kd.C_drew ?_))); (case side2 => exact HC0.out); rintro e w' ⟨rfl, ⟨nd, rfl⟩⟩; (try first | exact ⟨rfl, _, World.drewN_drewN _ _ _⟩ | exact ⟨rfl, _, Eq.trans (World.drewN_drewN _ _ _) (congrArg (World.drewN _) (Nat.add_assoc _ _ _))⟩); have p128 : 0 ≤ (x10_1 : Int) := of_decide_eq_true (by first | (with_reducible assumption) | assumption); have q128 : x10_1 < (l3.length : Int) := of_decide_eq_true (by first | (with_reducible assumption) | assumption); obtain ⟨ad128, A128_2, c128_2, A128_3, c128_3, e128, hx128_0, hx128_1, hx128_2, hx128_3, hl128_2, hi128_2, hl128_3, hi128_3⟩ := at_T31 HR3.out x10_1 p128 q128; cases e128; replace hx128_0 := (HB.out.cell (World.block_lt_of_cell? w _ hx128_0)).trans hx128_0; replace hx128_1 := (HB.out.cell (World.block_lt_of_cell? w _ hx128_1)).trans hx128_1; replace hx128_2 := (HB.out.cell (World.block_lt_of_cell? w _ hx128_2)).trans hx128_2; replace hx128_3 := (HB.out.cell (World.block_lt_of_cell? w _ hx128_3)).trans hx128_3; have HR128_2 := Aside0.mk hi128_2; have HC128_2 := Aside0.mk hl128_2; clear hi128_2 hl128_2; have HR128_3 := Aside0.mk hi128_3; have HC128_3 := Aside0.mk hl128_3; clear hi128_3 hl128_3; replace p128 := eq_true p128; replace q128 := eq_true q128) | (go_at_call 15; (with_reducible refine (spec_Rank.calls _ _ l0 ((rd_T31 l3 x10_1).f0) t129 _ ?side1 ?side2 A33.out).mono ?_); (case side1 => repeat (first | exact (Kd.C_below HR0.out (by repeat (first | (with_reducible first | exact HB.out | apply below_alloc | apply pw_below_drewN | apply below_drew1) | exact HB.out))) | (with_reducible refine Kd.C_alloc ?_ _) | (with_reducible refine Kd.C_drewN ?_ _) | (with_reducible refine Kd.C_drew ?_))); (case side2 => exact HC0.out); rintro e w' ⟨rfl, ⟨nd, rfl⟩⟩; (try first | exact ⟨rfl, _, World.drewN_drewN _ _ _⟩ | exact ⟨rfl, _, Eq.trans (World.drewN_drewN _ _ _) (congrArg (World.drewN _) (Nat.add_assoc _ _ _))⟩); have p130 : 0 ≤ (x12_3 : Int) := of_decide_eq_true (by first | (with_reducible assumption) | assumption); have q130 : x12_3 < (x9_1.length : Int) := of_decide_eq_true (by first | (with_reducible assumption) | assumption); obtain ⟨ad130, e130, hx130_0⟩ := Kd.at_int (Kd.R_reads' HO_9.out).2.2 x12_3 p130 q130; obtain rfl : ad126 = ad130 := (by injection e130); replace p130 := eq_true p130; replace q130 := eq_true q130; have p131 : 0 ≤ (x10_1 : Int) := of_decide_eq_true (by first | (with_reducible assumption) | assumption); have q131 : x10_1 < (l3.length : Int) := of_decide_eq_true (by first | (with_reducible assumption) | assumption); obtain ⟨ad131, A131_2, c131_2, A131_3, c131_3, e131, hx131_0, hx131_1, hx131_2, hx131_3, hl131_2, hi131_2, hl131_3, hi131_3⟩ := at_T31 HR3.out x10_1 p131 q131; obtain rfl : ad128 = ad131 := (by injection e131); replace hx131_0 := (HB.out.cell (World.block_lt_of_cell? w _ hx131_0)).trans hx131_0; replace hx131_1 := (HB.out.cell (World.block_lt_of_cell? w _ hx131_1)).trans hx131_1; replace hx131_2 := (HB.out.cell (World.block_lt_of_cell? w _ hx131_2)).trans hx131_2; replace hx131_3 := (HB.out.cell (World.block_lt_of_cell? w _ hx131_3)).trans hx131_3; have HR131_2 := Aside0.mk hi131_2; have HC131_2 := Aside0.mk hl131_2; clear hi131_2 hl131_2; have HR131_3 := Aside0.mk hi131_3; have HC131_3 := Aside0.mk hl131_3; clear hi131_3 hl131_3; replace p131 := eq_true p131; replace q131 := eq_true q131; have ea_ := Option.some.inj (hx128_2.symm.trans hx131_2); injection ea_ with ea_ en_ ec_; subst ea_; subst ec_; clear en_; have ea_ := Option.some.inj (hx128_3.symm.trans hx131_3); injection ea_ with ea_ en_ ec_; subst ea_; subst ec_; clear en_)); try go_wp2_with (first | (go_at_call 15; (with_reducible refine (spec_Rank.calls _ _ l0 (rd x9_1 x12_3) t127 _ ?side1 ?side2 A30.out).mono ?_); (case side1 => repeat (first | exact (Kd.C_below HR0.out HB.out) | (with_reducible refine Kd.C_alloc ?_ _) | (with_reducible refine Kd.C_drewN ?_ _) | (with_reducible refine Kd.C_drew ?_))); (case side2 => exact HC0.out); rintro e w' ⟨rfl, ⟨nd, rfl⟩⟩; (try first | exact ⟨rfl, _, World.drewN_drewN _ _ _⟩ | exact ⟨rfl, _, Eq.trans (World.drewN_drewN _ _ _) (congrArg (World.drewN _) (Nat.add_assoc _ _ _))⟩); have p128 : 0 ≤ (x10_1 : Int) := of_decide_eq_true (by first | (with_reducible assumption) | assumption); have q128 : x10_1 < (l3.length : Int) := of_decide_eq_true (by first | (with_reducible assumption) | assumption); obtain ⟨ad128, A128_2, c128_2, A128_3, c128_3, e128, hx128_0, hx128_1, hx128_2, hx128_3, hl128_2, hi128_2, hl128_3, hi128_3⟩ := at_T31 HR3.out x10_1 p128 q128; cases e128; replace hx128_0 := (HB.out.cell (World.block_lt_of_cell? w _ hx128_0)).trans hx128_0; replace hx128_1 := (HB.out.cell (World.block_lt_of_cell? w _ hx128_1)).trans hx128_1; replace hx128_2 := (HB.out.cell (World.block_lt_of_cell? w _ hx128_2)).trans hx128_2; replace hx128_3 := (HB.out.cell (World.block_lt_of_cell? w _ hx128_3)).trans hx128_3; have HR128_2 := Aside0.mk hi128_2; have HC128_2 := Aside0.mk hl128_2; clear hi128_2 hl128_2; have HR128_3 := Aside0.mk hi128_3; have HC128_3 := Aside0.mk hl128_3; clear hi128_3 hl128_3; replace p128 := eq_true p128; replace q128 := eq_true q128) | (go_at_call 15; (with_reducible refine (spec_Rank.calls _ _ l0 ((rd_T31 l3 x10_1).f0) t129 _ ?side1 ?side2 A33.out).mono ?_); (case side1 => repeat (first | exact (Kd.C_below HR0.out (by repeat (first | (with_reducible first | exact HB.out | apply below_alloc | apply pw_below_drewN | apply below_drew1) | exact HB.out))) | (with_reducible refine Kd.C_alloc ?_ _) | (with_reducible refine Kd.C_drewN ?_ _) | (with_reducible refine Kd.C_drew ?_))); (case side2 => exact HC0.out); rintro e w' ⟨rfl, ⟨nd, rfl⟩⟩; (try first | exact ⟨rfl, _, World.drewN_drewN _ _ _⟩ | exact ⟨rfl, _, Eq.trans (World.drewN_drewN _ _ _) (congrArg (World.drewN _) (Nat.add_assoc _ _ _))⟩); have p130 : 0 ≤ (x12_3 : Int) := of_decide_eq_true (by first | (with_reducible assumption) | assumption); have q130 : x12_3 < (x9_1.length : Int) := of_decide_eq_true (by first | (with_reducible assumption) | assumption); obtain ⟨ad130, e130, hx130_0⟩ := Kd.at_int (Kd.R_reads' HO_9.out).2.2 x12_3 p130 q130; obtain rfl : ad126 = ad130 := (by injection e130); replace p130 := eq_true p130; replace q130 := eq_true q130; have p131 : 0 ≤ (x10_1 : Int) := of_decide_eq_true (by first | (with_reducible assumption) | assumption); have q131 : x10_1 < (l3.length : Int) := of_decide_eq_true (by first | (with_reducible assumption) | assumption); obtain ⟨ad131, A131_2, c131_2, A131_3, c131_3, e131, hx131_0, hx131_1, hx131_2, hx131_3, hl131_2, hi131_2, hl131_3, hi131_3⟩ := at_T31 HR3.out x10_1 p131 q131; obtain rfl : ad128 = ad131 := (by injection e131); replace hx131_0 := (HB.out.cell (World.block_lt_of_cell? w _ hx131_0)).trans hx131_0; replace hx131_1 := (HB.out.cell (World.block_lt_of_cell? w _ hx131_1)).trans hx131_1; replace hx131_2 := (HB.out.cell (World.block_lt_of_cell? w _ hx131_2)).trans hx131_2; replace hx131_3 := (HB.out.cell (World.block_lt_of_cell? w _ hx131_3)).trans hx131_3; have HR131_2 := Aside0.mk hi131_2; have HC131_2 := Aside0.mk hl131_2; clear hi131_2 hl131_2; have HR131_3 := Aside0.mk hi131_3; have HC131_3 := Aside0.mk hl131_3; clear hi131_3 hl131_3; replace p131 := eq_true p131; replace q131 := eq_true q131; have ea_ := Option.some.inj (hx128_2.symm.trans hx131_2); injection ea_ with ea_ en_ ec_; subst ea_; subst ec_; clear en_; have ea_ := Option.some.inj (hx128_3.symm.trans hx131_3); injection ea_ with ea_ en_ ec_; subst ea_; subst ec_; clear en_)))
                                        go_roundg k3
                                        case measure => have := HK1.out; have := HJ14.out; have := HK3.out; omega
                                        case rel => exact ⟨(x12_3), (wrap64 (x12_3 + 1)), (by first | rfl | (simp; done) | (simp [*]; done)), (by first | rfl | (simp; done) | (simp [*]; done)), H', ⟨by have := HK1.out; have := HJ14.out; have := HK3.out; omega⟩, ⟨by (with_reducible repeat (first | apply Kd.R_alloc | apply Kd.R_drewN | apply Kd.R_drew)); exact HO_9.out⟩, ⟨by repeat (first | (with_reducible first | exact HB.out | apply below_alloc | apply pw_below_drewN | apply below_drew1) | exact HB.out)⟩⟩
                                      · rw [if_neg c35] at H
                                        have c35b0 : ((rd x9_1 x12_3) == ((rd_T31 l3 x10_1).f0)) = false := beq_eq_false_iff_ne.mpr c35
                                        have c35b1 : ((rd x9_1 x12_3) != ((rd_T31 l3 x10_1).f0)) = true := bne_iff_ne.mpr c35
                                        have H' := Aside0.mk H
                                        clear H
                                        have p126 : 0 ≤ (x12_3 : Int) := of_decide_eq_true (by first | (with_reducible assumption) | assumption)
                                        have q126 : x12_3 < (x9_1.length : Int) := of_decide_eq_true (by first | (with_reducible assumption) | assumption)
                                        obtain ⟨ad126, e126, hx126_0⟩ := Kd.at_int (Kd.R_reads' HO_9.out).2.2 x12_3 p126 q126
                                        cases e126
                                        replace p126 := eq_true p126
                                        replace q126 := eq_true q126
                                        go_wp2_with (first | (go_at_call 15; (with_reducible refine (spec_Rank.calls _ _ l0 (rd x9_1 x12_3) t127 _ ?side1 ?side2 A30.out).mono ?_); (case side1 => repeat (first | exact (Kd.C_below HR0.out HB.out) | (with_reducible refine Kd.C_alloc ?_ _) | (with_reducible refine Kd.C_drewN ?_ _) | (with_reducible refine Kd.C_drew ?_))); (case side2 => exact HC0.out); rintro e w' ⟨rfl, ⟨nd, rfl⟩⟩; (try first | exact ⟨rfl, _, World.drewN_drewN _ _ _⟩ | exact ⟨rfl, _, Eq.trans (World.drewN_drewN _ _ _) (congrArg (World.drewN _) (Nat.add_assoc _ _ _))⟩); have p128 : 0 ≤ (x10_1 : Int) := of_decide_eq_true (by first | (with_reducible assumption) | assumption); have q128 : x10_1 < (l3.length : Int) := of_decide_eq_true (by first | (with_reducible assumption) | assumption); obtain ⟨ad128, A128_2, c128_2, A128_3, c128_3, e128, hx128_0, hx128_1, hx128_2, hx128_3, hl128_2, hi128_2, hl128_3, hi128_3⟩ := at_T31 HR3.out x10_1 p128 q128; cases e128; replace hx128_0 := (HB.out.cell (World.block_lt_of_cell? w _ hx128_0)).trans hx128_0; replace hx128_1 := (HB.out.cell (World.block_lt_of_cell? w _ hx128_1)).trans hx128_1; replace hx128_2 := (HB.out.cell (World.block_lt_of_cell? w _ hx128_2)).trans hx128_2; replace hx128_3 := (HB.out.cell (World.block_lt_of_cell? w _ hx128_3)).trans hx128_3; have HR128_2 := Aside0.mk hi128_2; have HC128_2 := Aside0.mk hl128_2; clear hi128_2 hl128_2; have HR128_3 := Aside0.mk hi128_3; have HC128_3 := Aside0.mk hl128_3; clear hi128_3 hl128_3; replace p128 := eq_true p128; replace q128 := eq_true q128) | (go_at_call 15; (with_reducible refine (spec_Rank.calls _ _ l0 ((rd_T31 l3 x10_1).f0) t129 _ ?side1 ?side2 A33.out).mono ?_); (case side1 => repeat (first | exact (Kd.C_below HR0.out (by repeat (first | (with_reducible first | exact HB.out | apply below_alloc | apply pw_below_drewN | apply below_drew1) | exact HB.out))) | (with_reducible refine Kd.C_alloc ?_ _) | (with_reducible refine Kd.C_drewN ?_ _) | (with_reducible refine Kd.C_drew ?_))); (case side2 => exact HC0.out); rintro e w' ⟨rfl, ⟨nd, rfl⟩⟩; (try first | exact ⟨rfl, _, World.drewN_drewN _ _ _⟩ | exact ⟨rfl, _, Eq.trans (World.drewN_drewN _ _ _) (congrArg (World.drewN _) (Nat.add_assoc _ _ _))⟩); have p130 : 0 ≤ (x12_3 : Int) := of_decide_eq_true (by first | (with_reducible assumption) | assumption); have q130 : x12_3 < (x9_1.length : Int) := of_decide_eq_true (by first | (with_reducible assumption) | assumption); obtain ⟨ad130, e130, hx130_0⟩ := Kd.at_int (Kd.R_reads' HO_9.out).2.2 x12_3 p130 q130; obtain rfl : ad126 = ad130 := (by injection e130); replace p130 := eq_true p130; replace q130 := eq_true q130; have p131 : 0 ≤ (x10_1 : Int) := of_decide_eq_true (by first | (with_reducible assumption) | assumption); have q131 : x10_1 < (l3.length : Int) := of_decide_eq_true (by first | (with_reducible assumption) | assumption); obtain ⟨ad131, A131_2, c131_2, A131_3, c131_3, e131, hx131_0, hx131_1, hx131_2, hx131_3, hl131_2, hi131_2, hl131_3, hi131_3⟩ := at_T31 HR3.out x10_1 p131 q131; obtain rfl : ad128 = ad131 := (by injection e131); replace hx131_0 := (HB.out.cell (World.block_lt_of_cell? w _ hx131_0)).trans hx131_0; replace hx131_1 := (HB.out.cell (World.block_lt_of_cell? w _ hx131_1)).trans hx131_1; replace hx131_2 := (HB.out.cell (World.block_lt_of_cell? w _ hx131_2)).trans hx131_2; replace hx131_3 := (HB.out.cell (World.block_lt_of_cell? w _ hx131_3)).trans hx131_3; have HR131_2 := Aside0.mk hi131_2; have HC131_2 := Aside0.mk hl131_2; clear hi131_2 hl131_2; have HR131_3 := Aside0.mk hi131_3; have HC131_3 := Aside0.mk hl131_3; clear hi131_3 hl131_3; replace p131 := eq_true p131; replace q131 := eq_true q131; have ea_ := Option.some.inj (hx128_2.symm.trans hx131_2); injection ea_ with ea_ en_ ec_; subst ea_; subst ec_; clear en_; have ea_ := Option.some.inj (hx128_3.symm.trans hx131_3); injection ea_ with ea_ en_ ec_; subst ea_; subst ec_; clear en_))
                                        repeat (go_quiet (first | (go_at_call 15; (with_reducible refine (spec_Rank.calls _ _ l0 (rd x9_1 x12_3) t127 _ ?side1 ?side2 A30.out).mono ?_); (case side1 => repeat (first | exact (Kd.C_below HR0.out HB.out) | (with_reducible refine Kd.C_alloc ?_ _) | (with_reducible refine Kd.C_drewN ?_ _) | (with_reducible refine Kd.C_drew ?_))); (case side2 => exact HC0.out); rintro e w' ⟨rfl, ⟨nd, rfl⟩⟩; (try first | exact ⟨rfl, _, World.drewN_drewN _ _ _⟩ | exact ⟨rfl, _, Eq.trans (World.drewN_drewN _ _ _) (congrArg (World.drewN _) (Nat.add_assoc _ _ _))⟩); have p128 : 0 ≤ (x10_1 : Int) := of_decide_eq_true (by first | (with_reducible assumption) | assumption); have q128 : x10_1 < (l3.length : Int) := of_decide_eq_true (by first | (with_reducible assumption) | assumption); obtain ⟨ad128, A128_2, c128_2, A128_3, c128_3, e128, hx128_0, hx128_1, hx128_2, hx128_3, hl128_2, hi128_2, hl128_3, hi128_3⟩ := at_T31 HR3.out x10_1 p128 q128; cases e128; replace hx128_0 := (HB.out.cell (World.block_lt_of_cell? w _ hx128_0)).trans hx128_0; replace hx128_1 := (HB.out.cell (World.block_lt_of_cell? w _ hx128_1)).trans hx128_1; replace hx128_2 := (HB.out.cell (World.block_lt_of_cell? w _ hx128_2)).trans hx128_2; replace hx128_3 := (HB.out.cell (World.block_lt_of_cell? w _ hx128_3)).trans hx128_3; have HR128_2 := Aside0.mk hi128_2; have HC128_2 := Aside0.mk hl128_2; clear hi128_2 hl128_2; have HR128_3 := Aside0.mk hi128_3; have HC128_3 := Aside0.mk hl128_3; clear hi128_3 hl128_3; replace p128 := eq_true p128; replace q128 := eq_true q128) | (go_at_call 15; (with_reducible refine (spec_Rank.calls _ _ l0 ((rd_T31 l3 x10_1).f0) t129 _ ?side1 ?side2 A33.out).mono ?_); (case side1 => repeat (first | exact (Kd.C_below HR0.out (by repeat (first | (with_reducible first | exact HB.out | apply below_alloc | apply pw_below_drewN | apply below_drew1) | exact HB.out))) | (with_reducible refine Kd.C_alloc ?_ _) | (with_reducible refine Kd.C_drewN ?_ _) | (with_reducible refine Kd.C_drew ?_))); (case side2 => exact HC0.out); rintro e w' ⟨rfl, ⟨nd, rfl⟩⟩; (try first | exact ⟨rfl, _, World.drewN_drewN _ _ _⟩ | exact ⟨rfl, _, Eq.trans (World.drewN_drewN _ _ _) (congrArg (World.drewN _) (Nat.add_assoc _ _ _))⟩); have p130 : 0 ≤ (x12_3 : Int) := of_decide_eq_true (by first | (with_reducible assumption) | assumption); have q130 : x12_3 < (x9_1.length : Int) := of_decide_eq_true (by first | (with_reducible assumption) | assumption); obtain ⟨ad130, e130, hx130_0⟩ := Kd.at_int (Kd.R_reads' HO_9.out).2.2 x12_3 p130 q130; obtain rfl : ad126 = ad130 := (by injection e130); replace p130 := eq_true p130; replace q130 := eq_true q130; have p131 : 0 ≤ (x10_1 : Int) := of_decide_eq_true (by first | (with_reducible assumption) | assumption); have q131 : x10_1 < (l3.length : Int) := of_decide_eq_true (by first | (with_reducible assumption) | assumption); obtain ⟨ad131, A131_2, c131_2, A131_3, c131_3, e131, hx131_0, hx131_1, hx131_2, hx131_3, hl131_2, hi131_2, hl131_3, hi131_3⟩ := at_T31 HR3.out x10_1 p131 q131; obtain rfl : ad128 = ad131 := (by injection e131); replace hx131_0 := (HB.out.cell (World.block_lt_of_cell? w _ hx131_0)).trans hx131_0; replace hx131_1 := (HB.out.cell (World.block_lt_of_cell? w _ hx131_1)).trans hx131_1; replace hx131_2 := (HB.out.cell (World.block_lt_of_cell? w _ hx131_2)).trans hx131_2; replace hx131_3 := (HB.out.cell (World.block_lt_of_cell? w _ hx131_3)).trans hx131_3; have HR131_2 := Aside0.mk hi131_2; have HC131_2 := Aside0.mk hl131_2; clear hi131_2 hl131_2; have HR131_3 := Aside0.mk hi131_3; have HC131_3 := Aside0.mk hl131_3; clear hi131_3 hl131_3; replace p131 := eq_true p131; replace q131 := eq_true q131; have ea_ := Option.some.inj (hx128_2.symm.trans hx131_2); injection ea_ with ea_ en_ ec_; subst ea_; subst ec_; clear en_; have ea_ := Option.some.inj (hx128_3.symm.trans hx131_3); injection ea_ with ea_ en_ ec_; subst ea_; subst ec_; clear en_)); try go_wp2_with (first | (go_at_call 15; (with_reducible refine (spec_Rank.calls _ _ l0 (rd x9_1 x12_3) t127 _ ?side1 ?side2 A30.out).mono ?_); (case side1 => repeat (first | exact (Kd.C_below HR0.out HB.out) | (with_reducible refine Kd.C_alloc ?_ _) | (with_reducible refine Kd.C_drewN ?_ _) | (with_reducible refine Kd.C_drew ?_))); (case side2 => exact HC0.out); rintro e w' ⟨rfl, ⟨nd, rfl⟩⟩; (try first | exact ⟨rfl, _, World.drewN_drewN _ _ _⟩ | exact ⟨rfl, _, Eq.trans (World.drewN_drewN _ _ _) (congrArg (World.drewN _) (Nat.add_assoc _ _ _))⟩); have p128 : 0 ≤ (x10_1 : Int) := of_decide_eq_true (by first | (with_reducible assumption) | assumption); have q128 : x10_1 < (l3.length : Int) := of_decide_eq_true (by first | (with_reducible assumption) | assumption); obtain ⟨ad128, A128_2, c128_2, A128_3, c128_3, e128, hx128_0, hx128_1, hx128_2, hx128_3, hl128_2, hi128_2, hl128_3, hi128_3⟩ := at_T31 HR3.out x10_1 p128 q128; cases e128; replace hx128_0 := (HB.out.cell (World.block_lt_of_cell? w _ hx128_0)).trans hx128_0; replace hx128_1 := (HB.out.cell (World.block_lt_of_cell? w _ hx128_1)).trans hx128_1; replace hx128_2 := (HB.out.cell (World.block_lt_of_cell? w _ hx128_2)).trans hx128_2; replace hx128_3 := (HB.out.cell (World.block_lt_of_cell? w _ hx128_3)).trans hx128_3; have HR128_2 := Aside0.mk hi128_2; have HC128_2 := Aside0.mk hl128_2; clear hi128_2 hl128_2; have HR128_3 := Aside0.mk hi128_3; have HC128_3 := Aside0.mk hl128_3; clear hi128_3 hl128_3; replace p128 := eq_true p128; replace q128 := eq_true q128) | (go_at_call 15; (with_reducible refine (spec_Rank.calls _ _ l0 ((rd_T31 l3 x10_1).f0) t129 _ ?side1 ?side2 A33.out).mono ?_); (case side1 => repeat (first | exact (Kd.C_below HR0.out (by repeat (first | (with_reducible first | exact HB.out | apply below_alloc | apply pw_below_drewN | apply below_drew1) | exact HB.out))) | (with_reducible refine Kd.C_alloc ?_ _) | (with_reducible refine Kd.C_drewN ?_ _) | (with_reducible refine Kd.C_drew ?_))); (case side2 => exact HC0.out); rintro e w' ⟨rfl, ⟨nd, rfl⟩⟩; (try first | exact ⟨rfl, _, World.drewN_drewN _ _ _⟩ | exact ⟨rfl, _, Eq.trans (World.drewN_drewN _ _ _) (congrArg (World.drewN _) (Nat.add_assoc _ _ _))⟩); have p130 : 0 ≤ (x12_3 : Int) := of_decide_eq_true (by first | (with_reducible assumption) | assumption); have q130 : x12_3 < (x9_1.length : Int) := of_decide_eq_true (by first | (with_reducible assumption) | assumption); obtain ⟨ad130, e130, hx130_0⟩ := Kd.at_int (Kd.R_reads' HO_9.out).2.2 x12_3 p130 q130; obtain rfl : ad126 = ad130 := (by injection e130); replace p130 := eq_true p130; replace q130 := eq_true q130; have p131 : 0 ≤ (x10_1 : Int) := of_decide_eq_true (by first | (with_reducible assumption) | assumption); have q131 : x10_1 < (l3.length : Int) := of_decide_eq_true (by first | (with_reducible assumption) | assumption); obtain ⟨ad131, A131_2, c131_2, A131_3, c131_3, e131, hx131_0, hx131_1, hx131_2, hx131_3, hl131_2, hi131_2, hl131_3, hi131_3⟩ := at_T31 HR3.out x10_1 p131 q131; obtain rfl : ad128 = ad131 := (by injection e131); replace hx131_0 := (HB.out.cell (World.block_lt_of_cell? w _ hx131_0)).trans hx131_0; replace hx131_1 := (HB.out.cell (World.block_lt_of_cell? w _ hx131_1)).trans hx131_1; replace hx131_2 := (HB.out.cell (World.block_lt_of_cell? w _ hx131_2)).trans hx131_2; replace hx131_3 := (HB.out.cell (World.block_lt_of_cell? w _ hx131_3)).trans hx131_3; have HR131_2 := Aside0.mk hi131_2; have HC131_2 := Aside0.mk hl131_2; clear hi131_2 hl131_2; have HR131_3 := Aside0.mk hi131_3; have HC131_3 := Aside0.mk hl131_3; clear hi131_3 hl131_3; replace p131 := eq_true p131; replace q131 := eq_true q131; have ea_ := Option.some.inj (hx128_2.symm.trans hx131_2); injection ea_ with ea_ en_ ec_; subst ea_; subst ec_; clear en_; have ea_ := Option.some.inj (hx128_3.symm.trans hx131_3); injection ea_ with ea_ en_ ec_; subst ea_; subst ec_; clear en_)))
                                        go_roundg k3
                                        case measure => have := HK1.out; have := HJ14.out; have := HK3.out; omega
                                        case rel => exact ⟨(x11_3), (wrap64 (x12_3 + 1)), (by first | rfl | (simp; done) | (simp [*]; done)), (by first | rfl | (simp; done) | (simp [*]; done)), H', ⟨by have := HK1.out; have := HJ14.out; have := HK3.out; omega⟩, ⟨by (with_reducible repeat (first | apply Kd.R_alloc | apply Kd.R_drewN | apply Kd.R_drew)); exact HO_9.out⟩, ⟨by repeat (first | (with_reducible first | exact HB.out | apply below_alloc | apply pw_below_drewN | apply below_drew1) | exact HB.out)⟩⟩
                                  · rw [if_neg c32] at H
                                    exact absurd H (by simp)
                                · rw [if_neg c31] at H
                                  exact absurd H (by simp)
                              · rw [if_neg c29] at H
                                exact absurd H (by simp)
                            · rw [if_neg c28] at H
                              have c28b0 : decide (x12_3 < (x9_1.length : Int)) = false := decide_eq_false c28
                              clear c28
                              have HC36 := Aside0.mk H
                              clear H
                              go_upto_region 23 with (fail)
                              repeat (go_quiet (fail); go_upto_region 23 with (fail))
                              go_cut [101] (fun v101 wc => ∃ (kq : Nat) (x101_35 : Bool), v101 = .bool x101_35 ∧ Aside0 (spec_HeapRight.j3 kq l0 l2 l3 x9_1 x10_1 x11_3 x101_35 = some r) ∧ Aside0 (kq ≤ k3) ∧ Aside0 (Kd.R (Kd.int .i64) 3 wc w.heap.size (fun _ => True) (.slice Ao27 x9_1.length co27) x9_1) ∧ Aside0 (Below w.heap.size w wc))
                              case first =>
                                have H := HC36.out
                                clear HC36
                                by_cases c37 : x11_3 < 0
                                · rw [if_pos c37] at H
                                  have c37b0 : decide (x11_3 < 0) = true := decide_eq_true c37
                                  clear c37
                                  (first | rw [c37b0] | (simp only [i64_w, i32_w]; rw [c37b0]) | skip)
                                  have H' := Aside0.mk H
                                  clear H
                                  go_wp2
                                  repeat (go_quiet (fail); try go_wp2)
                                  go_meet
                                  case rel => exact ⟨_, (true), (by first | rfl | (simp; done) | (simp [*]; done)), H', ⟨by have := HK1.out; have := HJ14.out; have := HK3.out; first | omega | exact Nat.le_refl _⟩, ⟨by (with_reducible repeat (first | apply Kd.R_alloc | apply Kd.R_drewN | apply Kd.R_drew)); exact HO_9.out⟩, ⟨by repeat (first | (with_reducible first | exact HB.out | apply below_alloc | apply pw_below_drewN | apply below_drew1) | exact HB.out)⟩⟩
                                · rw [if_neg c37] at H
                                  have c37b0 : decide (x11_3 < 0) = false := decide_eq_false c37
                                  clear c37
                                  (first | rw [c37b0] | (simp only [i64_w, i32_w]; rw [c37b0]) | skip)
                                  by_cases c38 : 0 ≤ x10_1
                                  · rw [if_pos c38] at H
                                    have c38b0 : decide (0 ≤ x10_1) = true := decide_eq_true c38
                                    clear c38
                                    by_cases c39 : x10_1 < (l3.length : Int)
                                    · rw [if_pos c39] at H
                                      have c39b0 : decide (x10_1 < (l3.length : Int)) = true := decide_eq_true c39
                                      clear c39
                                      have H' := Aside0.mk H
                                      clear H
                                      have p132 : 0 ≤ (x10_1 : Int) := of_decide_eq_true (by first | (with_reducible assumption) | assumption)
                                      have q132 : x10_1 < (l3.length : Int) := of_decide_eq_true (by first | (with_reducible assumption) | assumption)
                                      obtain ⟨ad132, A132_2, c132_2, A132_3, c132_3, e132, hx132_0, hx132_1, hx132_2, hx132_3, hl132_2, hi132_2, hl132_3, hi132_3⟩ := at_T31 HR3.out x10_1 p132 q132
                                      cases e132
                                      replace hx132_0 := (HB.out.cell (World.block_lt_of_cell? w _ hx132_0)).trans hx132_0
                                      replace hx132_1 := (HB.out.cell (World.block_lt_of_cell? w _ hx132_1)).trans hx132_1
                                      replace hx132_2 := (HB.out.cell (World.block_lt_of_cell? w _ hx132_2)).trans hx132_2
                                      replace hx132_3 := (HB.out.cell (World.block_lt_of_cell? w _ hx132_3)).trans hx132_3
                                      have HR132_2 := Aside0.mk hi132_2
                                      have HC132_2 := Aside0.mk hl132_2
                                      clear hi132_2 hl132_2
                                      have HR132_3 := Aside0.mk hi132_3
                                      have HC132_3 := Aside0.mk hl132_3
                                      clear hi132_3 hl132_3
                                      replace p132 := eq_true p132
                                      replace q132 := eq_true q132
                                      go_wp2
                                      repeat (go_quiet (fail); try go_wp2)
                                      go_meet
                                      case rel => exact ⟨_, (!((rd_T31 l3 x10_1).f1)), (by first | rfl | (simp; done) | (simp [*]; done)), H', ⟨by have := HK1.out; have := HJ14.out; have := HK3.out; first | omega | exact Nat.le_refl _⟩, ⟨by (with_reducible repeat (first | apply Kd.R_alloc | apply Kd.R_drewN | apply Kd.R_drew)); exact HO_9.out⟩, ⟨by repeat (first | (with_reducible first | exact HB.out | apply below_alloc | apply pw_below_drewN | apply below_drew1) | exact HB.out)⟩⟩
                                    · rw [if_neg c39] at H
                                      exact absurd H (by simp)
                                  · rw [if_neg c38] at H
                                    exact absurd H (by simp)
                              case rest =>
                                clear HC36
                                try clear c1
                                try clear p1
                                try clear q1
                                try clear hx1
                                try clear c2
                                try clear p2
                                try clear q2
                                try clear c3
                                try clear c5
                                try clear c5b0
                                try clear c5b1
                                try clear c5b2
                                try clear c6
                                try clear p6
                                try clear c10
                                try clear c10b0
                                try clear c11
                                try clear c11b0
                                try clear p11
                                try clear q11
                                try clear hx11
                                try clear c12
                                try clear c12b0
                                try clear c12b1
                                try clear p12
                                try clear q12
                                try clear hx12
                                try clear c13
                                try clear p13
                                try clear q13
                                try clear hx13
                                try clear c16
                                try clear c16b0
                                try clear c16b1
                                try clear c17
                                try clear c18
                                try clear c18b0
                                try clear c18b1
                                try clear c18b2
                                try clear c19
                                try clear c19b0
                                try clear c20
                                try clear c20b0
                                try clear q21
                                try clear c22
                                try clear c24
                                try clear c24b0
                                try clear c24b1
                                try clear c28
                                try clear c28b0
                                try clear c29
                                try clear c29b0
                                try clear c31
                                try clear c31b0
                                try clear c32
                                try clear c32b0
                                try clear c34
                                try clear c34b0
                                try clear c35
                                try clear c35b0
                                try clear c35b1
                                try clear c37
                                try clear c37b0
                                try clear c38
                                try clear c38b0
                                try clear c39
                                try clear c39b0
                                try clear hx119_0
                                try clear hx119_1
                                try clear hx119_2
                                try clear hx119_3
                                try clear hx120_0
                                try clear hx120_1
                                try clear hx120_2
                                try clear hx120_3
                                try clear hx124_0
                                try clear hx124_1
                                try clear hx124_2
                                try clear hx124_3
                                try clear hx125_0
                                try clear hx125_1
                                try clear hx125_2
                                try clear hx125_3
                                try clear hx126_0
                                try clear hx128_0
                                try clear hx128_1
                                try clear hx128_2
                                try clear hx128_3
                                try clear hx130_0
                                try clear hx131_0
                                try clear hx131_1
                                try clear hx131_2
                                try clear hx131_3
                                try clear hx132_0
                                try clear hx132_1
                                try clear hx132_2
                                try clear hx132_3
                                try clear p1
                                try clear p11
                                try clear p119
                                try clear p12
                                try clear p120
                                try clear p124
                                try clear p125
                                try clear p126
                                try clear p128
                                try clear p130
                                try clear p131
                                try clear p132
                                try clear p2
                                try clear p6
                                try clear q1
                                try clear q11
                                try clear q119
                                try clear q12
                                try clear q120
                                try clear q124
                                try clear q125
                                try clear q126
                                try clear q128
                                try clear q130
                                try clear q131
                                try clear q132
                                try clear q2
                                try clear q21
                                obtain ⟨kq, x101_35, rfl, HA, HJ35, HO_9, HB⟩ := hcut
                                cases kq with
                                | zero => exact absurd HA.out (by simp [spec_HeapRight.j3])
                                | succ kj35 =>
                                  have H := HA.out
                                  clear HA
                                  simp only [spec_HeapRight.j3] at H
                                  by_cases c40 : x101_35 = true
                                  · subst c40
                                    have H1 : (some false) = some r := by rw [if_pos rfl] at H; exact H
                                    clear H
                                    have H := H1
                                    clear H1
                                    obtain rfl := Option.some.inj H
                                    go_wp2
                                    repeat (go_quiet (fail); try go_wp2)
                                    go_ret
                                    exact ⟨by first | rfl | (simp [errW_none, errW_some] <;> rfl) | (simp [*, errW_none, errW_some] <;> rfl), by repeat (first | (with_reducible first | exact HB.out | apply below_alloc | apply pw_below_drewN | apply below_drew1) | exact HB.out)⟩
                                  · replace c40 := Bool.eq_false_iff.mpr c40
                                    subst c40
                                    have H1 : (if 0 ≤ x10_1 then (if x10_1 < (l2.length : Int) then (if ((rd_T28 l2 x10_1).f1) = 1 then ((spec_cut.f x9_1 x11_3).bind fun t134 => (spec_HeapRight.l0 kj35 l0 l2 l3 t134 (wrap64 (x10_1 + 1)))) else (spec_HeapRight.l0 kj35 l0 l2 l3 x9_1 (wrap64 (x10_1 + 1)))) else (none)) else (none)) = some r := by rw [if_neg (show ¬ (false = true) by decide)] at H; exact H
                                    clear H
                                    have H := H1
                                    clear H1
                                    by_cases c41 : 0 ≤ x10_1
                                    · rw [if_pos c41] at H
                                      have c41b0 : decide (0 ≤ x10_1) = true := decide_eq_true c41
                                      clear c41
                                      by_cases c42 : x10_1 < (l2.length : Int)
                                      · rw [if_pos c42] at H
                                        have c42b0 : decide (x10_1 < (l2.length : Int)) = true := decide_eq_true c42
                                        clear c42
                                        by_cases c43 : ((rd_T28 l2 x10_1).f1) = 1
                                        · rw [if_pos c43] at H
                                          have c43b0 : (((rd_T28 l2 x10_1).f1) == 1) = true := beq_iff_eq.mpr c43
                                          have c43b1 : (((rd_T28 l2 x10_1).f1) != 1) = false := bne_eq_false_iff_eq.mpr c43
                                          clear c43
                                          replace H := Option.bind_eq_some_iff.mp H
                                          obtain ⟨t134, A440, H⟩ := H
                                          replace H : (spec_HeapRight.l0 kj35 l0 l2 l3 t134 (wrap64 (x10_1 + 1))) = some r := H
                                          have A44 := Aside0.mk A440
                                          clear A440
                                          have H' := Aside0.mk H
                                          clear H
                                          have p133 : 0 ≤ (x10_1 : Int) := of_decide_eq_true (by first | (with_reducible assumption) | assumption)
                                          have q133 : x10_1 < (l2.length : Int) := of_decide_eq_true (by first | (with_reducible assumption) | assumption)
                                          obtain ⟨ad133, e133, hx133_0, hx133_1, hx133_2, hx133_3⟩ := at_T28 HR2.out x10_1 p133 q133
                                          obtain rfl : ad119 = ad133 := (by injection e133)
                                          replace hx133_0 := (HB.out.cell (World.block_lt_of_cell? w _ hx133_0)).trans hx133_0
                                          replace hx133_1 := (HB.out.cell (World.block_lt_of_cell? w _ hx133_1)).trans hx133_1
                                          replace hx133_2 := (HB.out.cell (World.block_lt_of_cell? w _ hx133_2)).trans hx133_2
                                          replace hx133_3 := (HB.out.cell (World.block_lt_of_cell? w _ hx133_3)).trans hx133_3
                                          replace p133 := eq_true p133
                                          replace q133 := eq_true q133
                                          go_wp2_with (first | (go_at_call 28; (with_reducible refine (spec_cut.calls _ _ x9_1 x11_3 t134 _ ?side1 ?side2 A44.out).mono ?_); (case side1 => repeat (first | exact (Kd.R_reads' HO_9.out).2.2 | (with_reducible refine Kd.C_alloc ?_ _) | (with_reducible refine Kd.C_drewN ?_ _) | (with_reducible refine Kd.C_drew ?_))); (case side2 => exact (Kd.R_reads' HO_9.out).2.1); rintro e w45 ⟨v135, rfl, ho0, hb⟩; have n0_ := Aside0.mk (Kd.R_elder' (by (with_reducible repeat (first | apply Kd.R_alloc | apply Kd.R_drewN | apply Kd.R_drew)); exact HO_9.out) (Kd.R_base ho0) hb); have n1_ := Aside0.mk (Kd.R_lower (Kd.R_new' ho0 (Kd.R_lt (by (with_reducible repeat (first | apply Kd.R_alloc | apply Kd.R_drewN | apply Kd.R_drew)); exact HO_9.out))) (below_size (by repeat (first | (with_reducible first | exact HB.out | apply below_alloc | apply pw_below_drewN | apply below_drew1) | exact HB.out)))); have n2_ := Aside0.mk (below_step (by repeat (first | (with_reducible first | exact HB.out | apply below_alloc | apply pw_below_drewN | apply below_drew1) | exact HB.out)) hb); clear HO_9; clear HB; have HO_9 := n0_; have HO136 := n1_; have HB := n2_; clear n0_ n1_ n2_; (try clear hb); (try clear hb2); (try clear hk); (try clear hi); (try clear ho0)))
                                          repeat (go_quiet (first | (go_at_call 28; (with_reducible refine (spec_cut.calls _ _ x9_1 x11_3 t134 _ ?side1 ?side2 A44.out).mono ?_); (case side1 => repeat (first | exact (Kd.R_reads' HO_9.out).2.2 | (with_reducible refine Kd.C_alloc ?_ _) | (with_reducible refine Kd.C_drewN ?_ _) | (with_reducible refine Kd.C_drew ?_))); (case side2 => exact (Kd.R_reads' HO_9.out).2.1); rintro e w45 ⟨v135, rfl, ho0, hb⟩; have n0_ := Aside0.mk (Kd.R_elder' (by (with_reducible repeat (first | apply Kd.R_alloc | apply Kd.R_drewN | apply Kd.R_drew)); exact HO_9.out) (Kd.R_base ho0) hb); have n1_ := Aside0.mk (Kd.R_lower (Kd.R_new' ho0 (Kd.R_lt (by (with_reducible repeat (first | apply Kd.R_alloc | apply Kd.R_drewN | apply Kd.R_drew)); exact HO_9.out))) (below_size (by repeat (first | (with_reducible first | exact HB.out | apply below_alloc | apply pw_below_drewN | apply below_drew1) | exact HB.out)))); have n2_ := Aside0.mk (below_step (by repeat (first | (with_reducible first | exact HB.out | apply below_alloc | apply pw_below_drewN | apply below_drew1) | exact HB.out)) hb); clear HO_9; clear HB; have HO_9 := n0_; have HO136 := n1_; have HB := n2_; clear n0_ n1_ n2_; (try clear hb); (try clear hb2); (try clear hk); (try clear hi); (try clear ho0))); try go_wp2_with (first | (go_at_call 28; (with_reducible refine (spec_cut.calls _ _ x9_1 x11_3 t134 _ ?side1 ?side2 A44.out).mono ?_); (case side1 => repeat (first | exact (Kd.R_reads' HO_9.out).2.2 | (with_reducible refine Kd.C_alloc ?_ _) | (with_reducible refine Kd.C_drewN ?_ _) | (with_reducible refine Kd.C_drew ?_))); (case side2 => exact (Kd.R_reads' HO_9.out).2.1); rintro e w45 ⟨v135, rfl, ho0, hb⟩; have n0_ := Aside0.mk (Kd.R_elder' (by (with_reducible repeat (first | apply Kd.R_alloc | apply Kd.R_drewN | apply Kd.R_drew)); exact HO_9.out) (Kd.R_base ho0) hb); have n1_ := Aside0.mk (Kd.R_lower (Kd.R_new' ho0 (Kd.R_lt (by (with_reducible repeat (first | apply Kd.R_alloc | apply Kd.R_drewN | apply Kd.R_drew)); exact HO_9.out))) (below_size (by repeat (first | (with_reducible first | exact HB.out | apply below_alloc | apply pw_below_drewN | apply below_drew1) | exact HB.out)))); have n2_ := Aside0.mk (below_step (by repeat (first | (with_reducible first | exact HB.out | apply below_alloc | apply pw_below_drewN | apply below_drew1) | exact HB.out)) hb); clear HO_9; clear HB; have HO_9 := n0_; have HO136 := n1_; have HB := n2_; clear n0_ n1_ n2_; (try clear hb); (try clear hb2); (try clear hk); (try clear hi); (try clear ho0))))
                                          go_roundg kj35
                                          case measure => have := HK1.out; have := HJ14.out; have := HK3.out; have := HJ35.out; omega
                                          case rel => exact ⟨(t134), (wrap64 (x10_1 + 1)), (by first | rfl | (simp; done) | (simp [*]; done)), H', ⟨by have := HK1.out; have := HJ14.out; have := HK3.out; have := HJ35.out; omega⟩, ⟨by (with_reducible repeat (first | apply Kd.R_alloc | apply Kd.R_drewN | apply Kd.R_drew)); exact Kd.R_mono HO136.out (fun _ hk => trivial)⟩, ⟨by repeat (first | (with_reducible first | exact HB.out | apply below_alloc | apply pw_below_drewN | apply below_drew1) | exact HB.out)⟩⟩
                                        · rw [if_neg c43] at H
                                          have c43b0 : (((rd_T28 l2 x10_1).f1) == 1) = false := beq_eq_false_iff_ne.mpr c43
                                          have c43b1 : (((rd_T28 l2 x10_1).f1) != 1) = true := bne_iff_ne.mpr c43
                                          have H' := Aside0.mk H
                                          clear H
                                          have p133 : 0 ≤ (x10_1 : Int) := of_decide_eq_true (by first | (with_reducible assumption) | assumption)
                                          have q133 : x10_1 < (l2.length : Int) := of_decide_eq_true (by first | (with_reducible assumption) | assumption)
                                          obtain ⟨ad133, e133, hx133_0, hx133_1, hx133_2, hx133_3⟩ := at_T28 HR2.out x10_1 p133 q133
                                          obtain rfl : ad119 = ad133 := (by injection e133)
                                          replace hx133_0 := (HB.out.cell (World.block_lt_of_cell? w _ hx133_0)).trans hx133_0
                                          replace hx133_1 := (HB.out.cell (World.block_lt_of_cell? w _ hx133_1)).trans hx133_1
                                          replace hx133_2 := (HB.out.cell (World.block_lt_of_cell? w _ hx133_2)).trans hx133_2
                                          replace hx133_3 := (HB.out.cell (World.block_lt_of_cell? w _ hx133_3)).trans hx133_3
                                          replace p133 := eq_true p133
                                          replace q133 := eq_true q133
                                          go_wp2
                                          repeat (go_quiet (fail); try go_wp2)
                                          go_roundg kj35
                                          case measure => have := HK1.out; have := HJ14.out; have := HK3.out; have := HJ35.out; omega
                                          case rel => exact ⟨(x9_1), (wrap64 (x10_1 + 1)), (by first | rfl | (simp; done) | (simp [*]; done)), H', ⟨by have := HK1.out; have := HJ14.out; have := HK3.out; have := HJ35.out; omega⟩, ⟨by (with_reducible repeat (first | apply Kd.R_alloc | apply Kd.R_drewN | apply Kd.R_drew)); exact HO_9.out⟩, ⟨by repeat (first | (with_reducible first | exact HB.out | apply below_alloc | apply pw_below_drewN | apply below_drew1) | exact HB.out)⟩⟩
                                      · rw [if_neg c42] at H
                                        exact absurd H (by simp)
                                    · rw [if_neg c41] at H
                                      exact absurd H (by simp)
                    · replace c17 := Bool.eq_false_iff.mpr c17
                      subst c17
                      have H1 : (if ((rd_T28 l2 x10_1).f1) = 3 then (if 0 ≤ x10_1 then (if x10_1 < (l3.length : Int) then (if ((rd_T31 l3 x10_1).f0) = (x9_1.length : Int) then (spec_HeapRight.l0 kj14 l0 l2 l3 x9_1 (wrap64 (x10_1 + 1))) else (some false)) else (none)) else (none)) else (spec_HeapRight.l0 kj14 l0 l2 l3 x9_1 (wrap64 (x10_1 + 1)))) = some r := by rw [if_neg (show ¬ (false = true) by decide)] at H; exact H
                      clear H
                      have H := H1
                      clear H1
                      by_cases c46 : ((rd_T28 l2 x10_1).f1) = 3
                      · rw [if_pos c46] at H
                        have c46b0 : (((rd_T28 l2 x10_1).f1) == 3) = true := beq_iff_eq.mpr c46
                        have c46b1 : (((rd_T28 l2 x10_1).f1) != 3) = false := bne_eq_false_iff_eq.mpr c46
                        clear c46
                        by_cases c47 : 0 ≤ x10_1
                        · rw [if_pos c47] at H
                          have c47b0 : decide (0 ≤ x10_1) = true := decide_eq_true c47
                          clear c47
                          by_cases c48 : x10_1 < (l3.length : Int)
                          · rw [if_pos c48] at H
                            have c48b0 : decide (x10_1 < (l3.length : Int)) = true := decide_eq_true c48
                            clear c48
                            by_cases c49 : ((rd_T31 l3 x10_1).f0) = (x9_1.length : Int)
                            · rw [if_pos c49] at H
                              have c49b0 : (((rd_T31 l3 x10_1).f0) == (x9_1.length : Int)) = true := beq_iff_eq.mpr c49
                              have c49b1 : (((rd_T31 l3 x10_1).f0) != (x9_1.length : Int)) = false := bne_eq_false_iff_eq.mpr c49
                              clear c49
                              have H' := Aside0.mk H
                              clear H
                              have p137 : 0 ≤ (x10_1 : Int) := of_decide_eq_true (by first | (with_reducible assumption) | assumption)
                              have q137 : x10_1 < (l3.length : Int) := of_decide_eq_true (by first | (with_reducible assumption) | assumption)
                              obtain ⟨ad137, A137_2, c137_2, A137_3, c137_3, e137, hx137_0, hx137_1, hx137_2, hx137_3, hl137_2, hi137_2, hl137_3, hi137_3⟩ := at_T31 HR3.out x10_1 p137 q137
                              cases e137
                              replace hx137_0 := (HB.out.cell (World.block_lt_of_cell? w _ hx137_0)).trans hx137_0
                              replace hx137_1 := (HB.out.cell (World.block_lt_of_cell? w _ hx137_1)).trans hx137_1
                              replace hx137_2 := (HB.out.cell (World.block_lt_of_cell? w _ hx137_2)).trans hx137_2
                              replace hx137_3 := (HB.out.cell (World.block_lt_of_cell? w _ hx137_3)).trans hx137_3
                              have HR137_2 := Aside0.mk hi137_2
                              have HC137_2 := Aside0.mk hl137_2
                              clear hi137_2 hl137_2
                              have HR137_3 := Aside0.mk hi137_3
                              have HC137_3 := Aside0.mk hl137_3
                              clear hi137_3 hl137_3
                              replace p137 := eq_true p137
                              replace q137 := eq_true q137
                              obtain ⟨Ao50, co50, eo50⟩ := Kd.R_slice HO_9.out
                              subst eo50
                              go_wp2
                              repeat (go_quiet (fail); try go_wp2)
                              go_roundg kj14
                              case measure => have := HK1.out; have := HJ14.out; omega
                              case rel => exact ⟨(x9_1), (wrap64 (x10_1 + 1)), (by first | rfl | (simp; done) | (simp [*]; done)), H', ⟨by have := HK1.out; have := HJ14.out; omega⟩, ⟨by (with_reducible repeat (first | apply Kd.R_alloc | apply Kd.R_drewN | apply Kd.R_drew)); exact HO_9.out⟩, ⟨by repeat (first | (with_reducible first | exact HB.out | apply below_alloc | apply pw_below_drewN | apply below_drew1) | exact HB.out)⟩⟩
                            · rw [if_neg c49] at H
                              have c49b0 : (((rd_T31 l3 x10_1).f0) == (x9_1.length : Int)) = false := beq_eq_false_iff_ne.mpr c49
                              have c49b1 : (((rd_T31 l3 x10_1).f0) != (x9_1.length : Int)) = true := bne_iff_ne.mpr c49
                              obtain rfl := Option.some.inj H
                              have p137 : 0 ≤ (x10_1 : Int) := of_decide_eq_true (by first | (with_reducible assumption) | assumption)
                              have q137 : x10_1 < (l3.length : Int) := of_decide_eq_true (by first | (with_reducible assumption) | assumption)
                              obtain ⟨ad137, A137_2, c137_2, A137_3, c137_3, e137, hx137_0, hx137_1, hx137_2, hx137_3, hl137_2, hi137_2, hl137_3, hi137_3⟩ := at_T31 HR3.out x10_1 p137 q137
                              cases e137
                              replace hx137_0 := (HB.out.cell (World.block_lt_of_cell? w _ hx137_0)).trans hx137_0
                              replace hx137_1 := (HB.out.cell (World.block_lt_of_cell? w _ hx137_1)).trans hx137_1
                              replace hx137_2 := (HB.out.cell (World.block_lt_of_cell? w _ hx137_2)).trans hx137_2
                              replace hx137_3 := (HB.out.cell (World.block_lt_of_cell? w _ hx137_3)).trans hx137_3
                              have HR137_2 := Aside0.mk hi137_2
                              have HC137_2 := Aside0.mk hl137_2
                              clear hi137_2 hl137_2
                              have HR137_3 := Aside0.mk hi137_3
                              have HC137_3 := Aside0.mk hl137_3
                              clear hi137_3 hl137_3
                              replace p137 := eq_true p137
                              replace q137 := eq_true q137
                              obtain ⟨Ao51, co51, eo51⟩ := Kd.R_slice HO_9.out
                              subst eo51
                              go_wp2
                              repeat (go_quiet (fail); try go_wp2)
                              go_ret
                              exact ⟨by first | rfl | (simp [errW_none, errW_some] <;> rfl) | (simp [*, errW_none, errW_some] <;> rfl), by repeat (first | (with_reducible first | exact HB.out | apply below_alloc | apply pw_below_drewN | apply below_drew1) | exact HB.out)⟩
                          · rw [if_neg c48] at H
                            exact absurd H (by simp)
                        · rw [if_neg c47] at H
                          exact absurd H (by simp)
                      · rw [if_neg c46] at H
                        have c46b0 : (((rd_T28 l2 x10_1).f1) == 3) = false := beq_eq_false_iff_ne.mpr c46
                        have c46b1 : (((rd_T28 l2 x10_1).f1) != 3) = true := bne_iff_ne.mpr c46
                        have H' := Aside0.mk H
                        clear H
                        go_wp2
                        repeat (go_quiet (fail); try go_wp2)
                        go_roundg kj14
                        case measure => have := HK1.out; have := HJ14.out; omega
                        case rel => exact ⟨(x9_1), (wrap64 (x10_1 + 1)), (by first | rfl | (simp; done) | (simp [*]; done)), H', ⟨by have := HK1.out; have := HJ14.out; omega⟩, ⟨by (with_reducible repeat (first | apply Kd.R_alloc | apply Kd.R_drewN | apply Kd.R_drew)); exact HO_9.out⟩, ⟨by repeat (first | (with_reducible first | exact HB.out | apply below_alloc | apply pw_below_drewN | apply below_drew1) | exact HB.out)⟩⟩
            · rw [if_neg c11] at H
              exact absurd H (by simp)
          · rw [if_neg c10] at H
            have c10b0 : decide (x10_1 < (l2.length : Int)) = false := decide_eq_false c10
            clear c10
            obtain rfl := Option.some.inj H
            go_wp2
            repeat (go_quiet (fail); try go_wp2)
            go_ret
            exact ⟨by first | rfl | (simp [errW_none, errW_some] <;> rfl) | (simp [*, errW_none, errW_some] <;> rfl), by repeat (first | (with_reducible first | exact HB.out | apply below_alloc | apply pw_below_drewN | apply below_drew1) | exact HB.out)⟩
    · rw [if_neg c6] at H
      exact absurd H (by simp)
  · rw [if_neg c5] at H
    have c5b0 : ((l3.length : Int) == (l2.length : Int)) = false := beq_eq_false_iff_ne.mpr c5
    have c5b1 : ((l3.length : Int) != (l2.length : Int)) = true := bne_iff_ne.mpr c5
    have c5b2 : (l3.length == l2.length) = false := by first | simpa using c5 | (simp at c5 ⊢; omega)
    obtain rfl := Option.some.inj H
    go_enter Try.func10, Try.ntmps10
    go_wp2
    repeat (go_quiet (fail); try go_wp2)
    go_ret
    exact ⟨by first | rfl | (simp [errW_none, errW_some] <;> rfl) | (simp [*, errW_none, errW_some] <;> rfl), by repeat (first | (with_reducible first | exact HB.out | apply below_alloc | apply pw_below_drewN | apply below_drew1) | exact HB.out)⟩

end Go.Proofs.Ytinajjceojfflaa.PFnHeapRuns
