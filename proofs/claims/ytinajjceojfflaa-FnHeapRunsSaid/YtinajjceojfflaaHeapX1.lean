/- spec.Rank, spec.HeapRight: lines that print.sh printed for FnHeapRuns; spec.cut walked by hand (the printed walk did not build). -/
import Derived.Test.YtinajjceojfflaaPFnHeapRunsx0
import Derived.Test.YtinajjceojfflaaHeap4
namespace Go.Proofs.Ytinajjceojfflaa.PFnHeapRuns
open Go.RowKit Go.Proofs.YtinajjceojfflaaW.PrintWords Go.Proofs.YtinajjceojfflaaW.PrintLast Go.Proofs.YtinajjceojfflaaW.PrintMore
attribute [local go_sem] max2_int min2_int max_two min_two max_three min_three max_four min_four   -- for this text's walks alone
set_option linter.unusedVariables false
set_option linter.unusedSimpArgs false

/-! ### spec_Rank: function 15 -/
def spec_Rank.f (l0 : List Int) (a1 : Int) : Option (Int) := if (l0.length : Int) = 0 then (some a1) else (if 0 ≤ (Int.tmod (wrap64 ((Int.tmod a1 (l0.length : Int)) + (l0.length : Int))) (l0.length : Int)) then (if (Int.tmod (wrap64 ((Int.tmod a1 (l0.length : Int)) + (l0.length : Int))) (l0.length : Int)) < (l0.length : Int) then (some (rd l0 (Int.tmod (wrap64 ((Int.tmod a1 (l0.length : Int)) + (l0.length : Int))) (l0.length : Int)))) else (none)) else (none))
set_option maxHeartbeats 8000000 in
set_option maxRecDepth 100000 in
theorem spec_Rank.calls (A0 : Option Addr) (c0 : Nat) (l0 : List Int) (a1 : Int) (r : Int) (w : World) (hr0 : Kd.C (Kd.int .i64) w A0 l0.length l0) (hc0 : l0.length ≤ c0) (h : spec_Rank.f l0 a1 = some r) :
    Calls Try.prog 15 #[.slice A0 l0.length c0, .int .i64 a1] w fun e w' => e = .returned (.int .i64 r) ∧ Drawn0 w w' := by
  have HR0 := Aside0.mk hr0
  have HC0 := Aside0.mk hc0
  clear hr0 hc0
  have H : (if (l0.length : Int) = 0 then (some a1) else (if 0 ≤ (Int.tmod (wrap64 ((Int.tmod a1 (l0.length : Int)) + (l0.length : Int))) (l0.length : Int)) then (if (Int.tmod (wrap64 ((Int.tmod a1 (l0.length : Int)) + (l0.length : Int))) (l0.length : Int)) < (l0.length : Int) then (some (rd l0 (Int.tmod (wrap64 ((Int.tmod a1 (l0.length : Int)) + (l0.length : Int))) (l0.length : Int)))) else (none)) else (none))) = some r := h
  clear h
  by_cases c3 : (l0.length : Int) = 0
  · rw [if_pos c3] at H
    have c3b0 : ((l0.length : Int) == 0) = true := beq_iff_eq.mpr c3
    have c3b1 : ((l0.length : Int) != 0) = false := bne_eq_false_iff_eq.mpr c3
    clear c3
    obtain rfl := Option.some.inj H
    go_enter Try.func15, Try.ntmps15
    go_wp2
    go_ret
    exact ⟨by first | rfl | (simp; done) | (simp [*]; done), by repeat (first | exact Drawn0.refl _ | apply Drawn0.step)⟩
  · rw [if_neg c3] at H
    have c3b0 : ((l0.length : Int) == 0) = false := beq_eq_false_iff_ne.mpr c3
    have c3b1 : ((l0.length : Int) != 0) = true := bne_iff_ne.mpr c3
    have c3b2 : ¬ (l0 = []) := fun h_ => c3 (by rw [h_]; rfl)
    obtain ⟨ji4, hji4⟩ : ∃ j_ : Int, (Int.tmod (wrap64 ((Int.tmod a1 (l0.length : Int)) + (l0.length : Int))) (l0.length : Int)) = j_ := ⟨_, rfl⟩
    replace H : (if 0 ≤ (ji4) then (if (ji4) < (l0.length : Int) then (some (rd l0 (ji4))) else (none)) else (none)) = some r := by first | (rw [hji4] at H; exact H) | (simp only [hji4] at H ⊢; exact H)
    by_cases c5 : 0 ≤ (ji4)
    · rw [if_pos c5] at H
      have c5b0 : decide (0 ≤ (ji4)) = true := decide_eq_true c5
      clear c5
      by_cases c6 : (ji4) < (l0.length : Int)
      · rw [if_pos c6] at H
        have c6b0 : decide ((ji4) < (l0.length : Int)) = true := decide_eq_true c6
        clear c6
        obtain rfl := Option.some.inj H
        have p101 : 0 ≤ ((ji4) : Int) := of_decide_eq_true (by first | (with_reducible assumption) | assumption)
        have q101 : (ji4) < (l0.length : Int) := of_decide_eq_true (by first | (with_reducible assumption) | assumption)
        obtain ⟨ad101, e101, hx101_0⟩ := Kd.at_int HR0.out (ji4) p101 q101
        cases e101
        replace p101 := eq_true p101
        replace q101 := eq_true q101
        go_enter Try.func15, Try.ntmps15
        go_wp2
        go_ret
        exact ⟨by first | rfl | (simp; done) | (simp only [← hji4] <;> (first | rfl | simp)) | (simp [*]; done), by repeat (first | exact Drawn0.refl _ | apply Drawn0.step)⟩
      · rw [if_neg c6] at H
        exact absurd H (by simp)
    · rw [if_neg c5] at H
      exact absurd H (by simp)

/-! ### spec_cut: function 28 -/
def spec_cut.f (l0 : List Int) (a1 : Int) : Option (List Int) := (some (([] : List Int) : List Int)).bind fun y102 => (if 0 ≤ a1 then (if a1 ≤ (l0.length : Int) then (if y102.length + (l0.take (a1 : Int).toNat).length < 17592186044416 then ((some (y102 ++ (l0.take (a1 : Int).toNat) : List Int)).bind fun y106 => (if 0 ≤ (wrap64 (a1 + 1)) then (if (wrap64 (a1 + 1)) ≤ (l0.length : Int) then (if y106.length + (l0.drop ((wrap64 (a1 + 1)) : Int).toNat).length < 17592186044416 then (some (y106 ++ (l0.drop ((wrap64 (a1 + 1)) : Int).toNat))) else (none)) else (none)) else (none))) else (none)) else (none)) else (none))

theorem none_some (a : Addr) (n c : Nat) : ∀ m k, Value.slice (some a) n c = .slice none m k → m = 0 ∧ k = 0 := fun m k e => by cases e
theorem cut_use {l0 : List Int} {a1 : Int} {r : List Int} (hm : l0.length ≤ 9223372036854775807) (h : spec_cut.f l0 a1 = some r) : ∃ i : Nat, a1 = i ∧ i < l0.length ∧ l0.length ≤ 17592186044416 ∧ r = l0.take i ++ l0.drop (i + 1) := by
  unfold spec_cut.f at h
  simp only [Option.bind_some, List.nil_append, List.length_nil] at h
  by_cases c1 : 0 ≤ a1
  · rw [if_pos c1] at h
    by_cases c2 : a1 ≤ (l0.length : Int)
    · rw [if_pos c2] at h
      obtain ⟨i, rfl⟩ := Int.eq_ofNat_of_zero_le c1
      split at h
      · rename_i c3
        split at h
        · rename_i c4
          split at h
          · rename_i c5
            split at h
            · rename_i c6
              have e : wrap64 ((i : Int) + 1) = ((i + 1 : Nat) : Int) := by unfold wrap64 at c4 c5 ⊢; omega
              rw [e] at h c5 c6
              rw [Int.toNat_natCast, Int.toNat_natCast] at h
              rw [Int.toNat_natCast] at c6
              rw [Int.toNat_natCast] at c3
              simp only [List.length_take, List.length_drop] at c3 c6
              exact ⟨i, rfl, by omega, by omega, (Option.some.inj h).symm⟩
            · cases h
          · cases h
        · cases h
      · cases h
    · rw [if_neg c2] at h; cases h
  · rw [if_neg c1] at h; cases h
set_option maxHeartbeats 1600000 in
set_option maxRecDepth 100000 in
theorem spec_cut.calls (A0 : Option Addr) (c0 : Nat) (l0 : List Int) (a1 : Int) (r : List Int) (w : World) (hr0 : Kd.C (Kd.int .i64) w A0 l0.length l0) (hc0 : l0.length ≤ c0) (h : spec_cut.f l0 a1 = some r) :
    Calls Try.prog 28 #[.slice A0 l0.length c0, .int .i64 a1] w fun e w' => ∃ v0_ : Value, e = .returned (v0_) ∧ Kd.R (Kd.int .i64) 3 w' w.heap.size (fun _ => True) v0_ r ∧ Below w.heap.size w w' := by
  obtain ⟨i, rfl, hi, hl, rfl⟩ := cut_use hr0.2.1 h
  obtain ⟨i0, hi0, hz0, hz1, hz2⟩ := info_parts Try.infoInt
  obtain ⟨_, _, hc⟩ := Kd.reads_of_C (d := (0 : Int)) hr0
  replace hc := hc (by omega)
  obtain ⟨ad, e, hc⟩ := hc
  obtain ⟨b, off, spot⟩ := ad
  subst e
  have hs : spot = none := by
    have := hc 0 (by omega)
    rw [show (⟨b, off, spot⟩ : Addr).add 0 = ⟨b, off, spot⟩ by simp [Addr.add]] at this
    exact World.cell?_spot this
  subst hs
  have hc' : ∀ j, j < l0.length → w.cell? ⟨b, off + j, none⟩ = some (.int .i64 (l0.getD j 0)) := by
    intro j hj
    have := hc j hj
    rwa [show (⟨b, off, none⟩ : Addr).add j = ⟨b, off + j, none⟩ by unfold Addr.add; split <;> simp_all] at this
  have hb : b < w.heap.size := World.block_lt_of_cell? w ⟨b, off + 0, none⟩ (hc' 0 (by omega))
  have HC := Lib.hid hc'
  clear hc hc' h hr0
  have hl1 : (l0.take i).length = i := by rw [List.length_take]; omega
  have hl2 : (l0.drop (i + 1)).length = l0.length - (i + 1) := List.length_drop
  have ew : IntKind.i64.wrap ((i : Int) + 1) = ((i + 1 : Nat) : Int) := by rw [i64_w]; unfold wrap64; omega
  have c1 : decide ((0 : Int) ≤ (i : Int)) = true := by rw [decide_eq_true_eq]; omega
  have H1 : SlI w w.heap.size (.slice (some ⟨b, off, none⟩) i c0) (l0.take i) := by
    refine ⟨⟨some ⟨b, off, none⟩, c0, by rw [hl1], .inr ⟨b, off, rfl, by omega, hb, hb, fun j a hj k u hk => ?_⟩⟩⟩
    have hjl := (List.getElem?_eq_some_iff.1 hj).1
    cases k with
    | succ k => simp [int1] at hk
    | zero =>
      simp only [int1, List.getElem?_cons_zero, Option.some.injEq] at hk
      rw [Nat.mul_one, Nat.add_zero, HC.out j (by omega), ← hk]
      rw [List.getElem?_take_of_lt (by omega)] at hj
      rw [List.getD_eq_getElem?_getD, hj]; rfl
  by_cases hce : c0 = i + 1
  · subst hce
    have H2 : SlI w w.heap.size (.slice (some ⟨b, off, none⟩) 0 0) (l0.drop (i + 1)) := by
      refine ⟨⟨some ⟨b, off, none⟩, 0, ?_, .inl (List.eq_nil_of_length_eq_zero (by omega))⟩⟩
      rw [show (l0.drop (i + 1)).length = 0 by omega]
    have G1 := Lib.hid H1
    have G2 := Lib.hid H2
    clear H1 H2
    have e0 : 0 + (l0.take i).length = i := by omega
    go_enter Try.func28, Try.ntmps28
    go_wp2_with (first
      | ((with_reducible refine gate_builtin (b := .append) (xs := #[.tmp 6, .tmp 9]) rfl ?_); at_builtin; (refine wpList_append_some int1_len _ rfl (.tmp 6) (.tmp 9) 22 rfl w.heap.size 3 i0 _ 8 Try.underlying22 hi0 hz0 hz1 hz2 rfl (by omega) _ _ 0 [] rfl (own_empty w _ 1) _ (l0.take i) rfl (G1.out.below ((Below.refl _ w).alloc (Nat.le_refl _) _)) (none_some _ _ _) (by intro a; simp [int1, Value.oneCell']) (by rw [hl1]; unfold maxLen; omega) (by rw [hl1]; omega) (by simp) ?_); intro g1 cap1 w1 hown1 hgrow1; rw [e0] at hown1 ⊢)
      | ((with_reducible refine gate_builtin (b := .append) (xs := #[.tmp 11, .tmp 15]) rfl ?_); at_builtin; (refine wpList_append_some int1_len _ rfl (.tmp 11) (.tmp 15) 22 rfl w.heap.size 3 i0 _ 8 Try.underlying22 hi0 hz0 hz1 hz2 rfl (by omega) _ _ i _ rfl hown1 _ (l0.drop (i + 1)) rfl (G2.out.below (((Below.refl _ w).alloc (Nat.le_refl _) (Obj.cells #[] 3)).grown hgrow1 (by simp) (fun g hg => (own_empty w 3 1).lt g hg |>.1))) (none_some _ _ _) (by intro a; simp [int1, Value.oneCell']) (by rw [hl2]; unfold maxLen; omega) (by rw [hl2]; omega) (by have := hgrow1.size; simp at this; omega) ?_); intro g2 cap2 w2 hown2 hgrow2))
    go_ret
    have q := (((Below.refl _ w).alloc (Nat.le_refl _) (Obj.cells #[] 3)).grown hgrow1 (by simp) (fun g hg => (own_empty w 3 1).lt g hg |>.1)).grown hgrow2 (Nat.le_trans (by simp) hgrow1.size) (fun g hg => (hown1.lt g hg).1)
    have e1 : (l0.take i).flatMap int1 ++ (l0.drop (i + 1)).flatMap int1 = encs (Value.int .i64) (l0.take i ++ l0.drop (i + 1)) := by
      rw [int1_flat, int1_flat]; unfold encs; rw [List.map_append]; try rfl
    have e2 : i + (l0.drop (i + 1)).length = (l0.take i ++ l0.drop (i + 1)).length := by rw [List.length_append, hl1]
    rw [List.nil_append, e1] at hown2
    rw [e2] at hown2
    refine ⟨.slice (some ⟨g2, 0, none⟩) (l0.take i ++ l0.drop (i + 1)).length cap2, by (first | (rw [← e2]; rfl) | (rw [← e2, hl2]; rfl) | (rw [← e2, show i + (l0.drop (i + 1)).length = i by omega]; rfl)), ?_, q⟩
    exact Kd.R_of_own hown2 (fun _ _ => trivial)
  · have hce' := eq_false hce
    have H2 : SlI w w.heap.size (.slice (some ⟨b, off + (i + 1), none⟩) (l0.length - (i + 1)) (c0 - (i + 1))) (l0.drop (i + 1)) := by
      refine ⟨⟨some ⟨b, off + (i + 1), none⟩, c0 - (i + 1), by rw [hl2], .inr ⟨b, off + (i + 1), rfl, by omega, hb, hb, fun j a hj k u hk => ?_⟩⟩⟩
      have hjl := (List.getElem?_eq_some_iff.1 hj).1
      cases k with
      | succ k => simp [int1] at hk
      | zero =>
        simp only [int1, List.getElem?_cons_zero, Option.some.injEq] at hk
        rw [Nat.mul_one, Nat.add_zero, Nat.add_assoc, HC.out (i + 1 + j) (by omega), ← hk]
        rw [List.getElem?_drop] at hj
        rw [List.getD_eq_getElem?_getD, hj]; rfl
    have G1 := Lib.hid H1
    have G2 := Lib.hid H2
    clear H1 H2
    have e0 : 0 + (l0.take i).length = i := by omega
    go_enter Try.func28, Try.ntmps28
    go_wp2_with (first
      | ((with_reducible refine gate_builtin (b := .append) (xs := #[.tmp 6, .tmp 9]) rfl ?_); at_builtin; (refine wpList_append_some int1_len _ rfl (.tmp 6) (.tmp 9) 22 rfl w.heap.size 3 i0 _ 8 Try.underlying22 hi0 hz0 hz1 hz2 rfl (by omega) _ _ 0 [] rfl (own_empty w _ 1) _ (l0.take i) rfl (G1.out.below ((Below.refl _ w).alloc (Nat.le_refl _) _)) (none_some _ _ _) (by intro a; simp [int1, Value.oneCell']) (by rw [hl1]; unfold maxLen; omega) (by rw [hl1]; omega) (by simp) ?_); intro g1 cap1 w1 hown1 hgrow1; rw [e0] at hown1 ⊢)
      | ((with_reducible refine gate_builtin (b := .append) (xs := #[.tmp 11, .tmp 15]) rfl ?_); at_builtin; (refine wpList_append_some int1_len _ rfl (.tmp 11) (.tmp 15) 22 rfl w.heap.size 3 i0 _ 8 Try.underlying22 hi0 hz0 hz1 hz2 rfl (by omega) _ _ i _ rfl hown1 _ (l0.drop (i + 1)) rfl (G2.out.below (((Below.refl _ w).alloc (Nat.le_refl _) (Obj.cells #[] 3)).grown hgrow1 (by simp) (fun g hg => (own_empty w 3 1).lt g hg |>.1))) (none_some _ _ _) (by intro a; simp [int1, Value.oneCell']) (by rw [hl2]; unfold maxLen; omega) (by rw [hl2]; omega) (by have := hgrow1.size; simp at this; omega) ?_); intro g2 cap2 w2 hown2 hgrow2))
    go_ret
    have q := (((Below.refl _ w).alloc (Nat.le_refl _) (Obj.cells #[] 3)).grown hgrow1 (by simp) (fun g hg => (own_empty w 3 1).lt g hg |>.1)).grown hgrow2 (Nat.le_trans (by simp) hgrow1.size) (fun g hg => (hown1.lt g hg).1)
    have e1 : (l0.take i).flatMap int1 ++ (l0.drop (i + 1)).flatMap int1 = encs (Value.int .i64) (l0.take i ++ l0.drop (i + 1)) := by
      rw [int1_flat, int1_flat]; unfold encs; rw [List.map_append]; try rfl
    have e2 : i + (l0.drop (i + 1)).length = (l0.take i ++ l0.drop (i + 1)).length := by rw [List.length_append, hl1]
    rw [List.nil_append, e1] at hown2
    rw [e2] at hown2
    refine ⟨.slice (some ⟨g2, 0, none⟩) (l0.take i ++ l0.drop (i + 1)).length cap2, by (first | (rw [← e2]; rfl) | (rw [← e2, hl2]; rfl) | (rw [← e2, show i + (l0.drop (i + 1)).length = i by omega]; rfl)), ?_, q⟩
    exact Kd.R_of_own hown2 (fun _ _ => trivial)
end Go.Proofs.Ytinajjceojfflaa.PFnHeapRuns
