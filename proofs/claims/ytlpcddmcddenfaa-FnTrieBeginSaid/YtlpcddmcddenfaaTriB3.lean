/- spec.Words: Remove. -/
import Derived.Test.YtlpcddmcddenfaaTriB2
namespace Go.Proofs.Ytlpcddmcddenfaa.Kp
open Go.RowKit Tri

set_option maxRecDepth 100000 in
set_option maxHeartbeats 1600000 in
theorem wrem_calls (kv vv : Value) (n : Nat) (ks : List Txt) (vs : List Int) (key : Txt) (w : World) (h : WV w kv vv n ks vs) (hn : n ≤ 4294967296) :
    Calls Try.prog 35 #[.agg #[kv, vv], str key] w (WPost w n) := by
  obtain ⟨i9, hi9, hz9, hs9, hy9⟩ := info_parts infoS
  obtain ⟨Ak, ck, rfl⟩ := h.k.form
  obtain ⟨Av, cv, rfl⟩ := h.v.form
  have hkl := h.kl
  have hvl := h.vl
  replace h : WV w (.slice Ak n ck) (.slice Av n cv) n ks vs := by have h' := h; rw [hkl, hvl] at h'; exact h'
  rw [hkl, hvl]
  obtain ⟨W, hW⟩ : ∃ W, W = (w.alloc (.cells #[.slice Ak n ck, .slice Av n cv] 49)).alloc (.cells #[.slice none 0 0, .slice none 0 0] 49) := ⟨_, rfl⟩
  have hb : Below w.heap.size w W := by rw [hW]; exact ((Below.refl _ w).alloc (Nat.le_refl _) _).alloc (by simp) _
  have hx3 : Blk W w.heap.size #[.slice Ak n ck, .slice Av n cv] 49 := by rw [hW]; exact (Blk.new _ _ _).alloc _
  have hx6 : Blk W (w.heap.size + 1) #[.slice none 0 0, .slice none 0 0] 49 := by
    rw [hW]
    have := Blk.new (w.alloc (.cells #[.slice Ak n ck, .slice Av n cv] 49)) #[.slice none 0 0, .slice none 0 0] 49
    rwa [show (w.alloc (.cells #[.slice Ak n ck, .slice Av n cv] 49)).heap.size = w.heap.size + 1 by simp] at this
  have HA := Lib.hid (at_calls _ _ n ks vs key W (h.below hb) hn)
  have HH := Lib.hid (And.intro h (And.intro hb (And.intro hx3 hx6)))
  have HW := Lib.hid hW
  have c0 := hx3.cell 0
  have c1 := hx3.cell 1
  simp only [List.getElem?_toArray] at c0 c1
  have hb0 := hx6.lt
  have HV := Lib.hid (And.intro hkl hvl)
  clear h hb hx3 hx6 hW hkl hvl
  go_enter Try.func35, Try.ntmps35
  go_upto_region 1 with (fail)
  change Code.wp _ _ _ _ ((w.alloc (.cells #[.slice Ak n ck, .slice Av n cv] 49)).alloc (.cells #[.slice none 0 0, .slice none 0 0] 49))
  rw [← HW.out]
  go_wp2_with fail
  refine HA.out.mono ?_
  rintro e w1 ⟨i, bv, rfl, hi, hbv, b1⟩
  have hB := HH.out.2.1.trans (b1.mono HH.out.2.1.size)
  have y3 := HH.out.2.2.1.below b1 HH.out.2.2.1.lt
  have y6 := HH.out.2.2.2.below b1 HH.out.2.2.2.lt
  have d0 := y3.cell 0
  have d1 := y3.cell 1
  have f0 := y6.cell 0
  have f1 := y6.cell 1
  have ff := y6.frozen
  simp only [List.getElem?_toArray] at d0 d1 f0 f1
  have HY := Lib.hid (And.intro hB (And.intro y3 (And.intro y6 (HH.out.1.below hB))))
  have hb6 := y6.lt
  have hb3l := y3.lt
  clear hB y3 y6 b1 c0 c1 HA HW HH hb0
  rcases hbv with rfl | ⟨rfl, hi2⟩
  · go_wp2_with fail
    obtain ⟨⟨z0, z1⟩, hP⟩ := words_end (n := n) HY.out.2.2.1 rfl HY.out.1 (by omega) HY.out.2.2.2 (by omega)
    refine bodyPost_ret (v := .agg #[.slice Ak n ck, .slice Av n cv]) (by simp [results, Try.results35, go_sem, z0, z1]) rfl hP
  · have HD := Lib.hid (fun (w' : World) (hb : Below w1.heap.size w1 w') => scut_calls vs _ i w' (HY.out.2.2.2.v.below hb) (by have := HY.out.2.2.2.vl; omega) (by have := HY.out.2.2.2.vl; omega))
    have hlp : (vs.take i ++ vs.drop (i + 1)).length = n - 1 := by have := HY.out.2.2.2.vl; rw [List.length_append, List.length_take, List.length_drop]; omega
    have hlk : (ks.take i ++ ks.drop (i + 1)).length = n - 1 := by have := HY.out.2.2.2.kl; rw [List.length_append, List.length_take, List.length_drop]; omega
    have hfk : ∀ y ∈ ks.take i ++ ks.drop (i + 1), y.length ≤ 2147483647 := fun y hy => by
      rcases List.mem_append.1 hy with hy | hy
      · exact HY.out.2.2.2.fit y (List.mem_of_mem_take hy)
      · exact HY.out.2.2.2.fit y (List.mem_of_mem_drop hy)
    obtain ⟨m1, hm1⟩ : ∃ m1, m1 = n - 1 := ⟨_, rfl⟩
    rw [← hm1] at hlp hlk
    have HM1 := Lib.hid (show m1 ≤ n + 1 by omega)
    have HM2 := Lib.hid hm1
    clear hm1
    have hmap : (ks.take i ++ ks.drop (i + 1)).map str = (ks.take i).map str ++ (ks.drop (i + 1)).map str := by simp
    have HT := Lib.hid (show (ks.take i).length = i by have := HY.out.2.2.2.kl; rw [List.length_take]; omega)
    have HDL := Lib.hid (show (ks.drop (i + 1)).length = n - (i + 1) by have := HY.out.2.2.2.kl; rw [List.length_drop]; omega)
    obtain ⟨A1, c1, _, _, p1, _, hw1⟩ := partsN HY.out.2.2.2.k HY.out.2.2.2.kl (Nat.le_of_lt hi2)
    obtain ⟨_, _, A2, c2, _, p2, hw⟩ := partsN HY.out.2.2.2.k HY.out.2.2.2.kl (show i + 1 ≤ n from hi2)
    have P1 := Lib.hid p1.sl
    have P2 := Lib.hid p2.sl
    have N1 := Lib.hid p1.hnone
    have N2 := Lib.hid p2.hnone
    have O1 := Lib.hid (own_mt w1 w1.heap.size (Nat.le_refl _) 9 1)
    have B0 := Lib.hid ((Below.refl w1.heap.size w1).alloc (Nat.le_refl _) (.cells #[] 9))
    have HM := Lib.hid hmap
    have ew : IntKind.i64.wrap ((i : Int) + 1) = ((i + 1 : Nat) : Int) := by rw [show ((i + 1 : Nat) : Int) = (i : Int) + 1 by omega]; exact IntWalk.i64_in _ (by omega)
    clear p1 p2 hmap
    generalize vs.take i ++ vs.drop (i + 1) = V1 at *
    generalize ks.take i ++ ks.drop (i + 1) = K1 at *
    generalize ks.take i = t1 at *
    generalize ks.drop (i + 1) = t2 at *
    rcases hw1 with ⟨_, _, _, _, _, _, _, ek⟩ | ⟨gb, go, rfl, rfl, rfl, hoc, hcm, _⟩
    · omega
    rcases hw with ⟨e0, _⟩ | ⟨gb', go', e0, _, _, _, _, (⟨rfl, rfl, rfl⟩ | ⟨hlt2, rfl, rfl⟩)⟩
    · cases e0
    case' inr.inl =>
      have hkp : n - (i + 1) = 0 := by omega
      rw [hkp] at P2 N2 HDL
      clear hkp
    case' inr.inr => have hne : ¬ (c1 = i + 1) := by omega
    all_goals
      cases e0
      have hi1 : (i : Int) + 1 ≤ (n : Int) := by omega
      have hi0 : (0 : Int) ≤ (i : Int) + 1 := by omega
      go_wp2_with (at_builtin; refine wpList_append_C (s := 1) (cells := fun x => [str x]) (fun x => one_str x) _ rfl (.tmp 17) (.tmp 21) 29 rfl w1.heap.size 9 i9 _ 16 Try.underlying29 hi9 hz9 hs9 hy9 rfl (by omega) _ 0 [] rfl O1.out _ t1 rfl (P1.out.below B0.out) N1.out (fun x u hu => by rw [List.mem_singleton.1 hu]; rfl) (by unfold maxLen; have := HT.out; omega) (by have := HT.out; omega) B0.out.size ?_; intro v1 w2 o1 g1; have HB3 := Lib.hid (B0.out.grown g1 B0.out.size (fun g hg => (O1.out.lt g hg).1)); have HO2 := Lib.hid o1; have z2 := HB3.out.size; clear o1 g1)
      have e0 := (HB3.out.cell (p := ⟨w.heap.size, 0, none⟩) hb3l).trans d0
      have e1 := (HB3.out.cell (p := ⟨w.heap.size, 1, none⟩) hb3l).trans d1
      have HDR := Lib.hid (HB3.out.trans (Below.drewN w2 1))
      refine wp_region_G (fun w' : World => w'.cell? ⟨w.heap.size, 0, none⟩ = w2.cell? ⟨w.heap.size, 0, none⟩ ∧ w'.cell? ⟨w.heap.size, 1, none⟩ = w2.cell? ⟨w.heap.size, 1, none⟩) (fun _ => false) (by kernel_rfl) ?_
      have hS0 : (fun w' : World => w'.cell? ⟨w.heap.size, 0, none⟩ = w2.cell? ⟨w.heap.size, 0, none⟩ ∧ w'.cell? ⟨w.heap.size, 1, none⟩ = w2.cell? ⟨w.heap.size, 1, none⟩) w2.drew := ⟨rfl, rfl⟩
      refine wpAnyG_take (i := 0) (v := ?_) rfl rfl (by kernel_rfl) (by kernel_rfl) (by kernel_rfl) (by kernel_rfl) (fun _ _ _ h => h) (by rfl) ?_ hS0 ?_
      rotate_left 1
      · intro w' hSw; (try dsimp only at hSw); go_simp; (try with_reducible rfl)
      simp only [Act.put, List.getElem_toArray, List.getElem_cons_succ, List.getElem_cons_zero, List.setIfInBounds_toArray, List.set_cons_zero, List.set_cons_succ]
      refine wpAnyG_take (i := 1) (v := ?_) rfl rfl (by kernel_rfl) (by kernel_rfl) (by kernel_rfl) (by kernel_rfl) (fun _ _ _ h => h) (by rfl) ?_ hS0 ?_
      rotate_left 1
      · intro w' hSw; (try dsimp only at hSw); go_simp; (try with_reducible rfl)
      simp only [Act.put, List.getElem_toArray, List.getElem_cons_succ, List.getElem_cons_zero, List.setIfInBounds_toArray, List.set_cons_zero, List.set_cons_succ]
      refine wpAnyG_take (i := 2) (v := ?_) rfl rfl (by kernel_rfl) (by kernel_rfl) (by kernel_rfl) (by kernel_rfl) (fun _ _ _ h => h) (by rfl) ?_ hS0 ?_
      rotate_left 1
      · intro w' hSw; (try dsimp only at hSw); go_simp; (try with_reducible rfl)
      simp only [Act.put, List.getElem_toArray, List.getElem_cons_succ, List.getElem_cons_zero, List.setIfInBounds_toArray, List.set_cons_zero, List.set_cons_succ]
      refine wpAnyG_take (i := 3) (v := ?_) rfl rfl (by kernel_rfl) (by kernel_rfl) (by kernel_rfl) (by kernel_rfl) (fun _ _ _ h => h) (by rfl) ?_ hS0 ?_
      rotate_left 1
      · intro w' hSw; (try dsimp only at hSw); go_simp; (try with_reducible rfl)
      simp only [Act.put, List.getElem_toArray, List.getElem_cons_succ, List.getElem_cons_zero, List.setIfInBounds_toArray, List.set_cons_zero, List.set_cons_succ]
      refine wpAnyG_take (i := 4) (v := ?_) rfl rfl (by kernel_rfl) (by kernel_rfl) (by kernel_rfl) (by kernel_rfl) (fun _ _ _ h => h) (by rfl) ?_ hS0 ?_
      rotate_left 1
      · intro w' hSw; (try dsimp only at hSw); go_simp; (try with_reducible rfl)
      simp only [Act.put, List.getElem_toArray, List.getElem_cons_succ, List.getElem_cons_zero, List.setIfInBounds_toArray, List.set_cons_zero, List.set_cons_succ]
      refine wpAnyG_take (i := 5) (v := ?_) rfl rfl (by kernel_rfl) (by kernel_rfl) (by kernel_rfl) (by kernel_rfl) (fun _ _ _ h => h) (by rfl) ?_ hS0 ?_
      rotate_left 1
      · intro w' hSw; (try dsimp only at hSw); go_simp; (try with_reducible rfl)
      simp only [Act.put, List.getElem_toArray, List.getElem_cons_succ, List.getElem_cons_zero, List.setIfInBounds_toArray, List.set_cons_zero, List.set_cons_succ]
      refine wpAnyG_take (i := 7) (v := ?_) rfl rfl (by kernel_rfl) (by kernel_rfl) (by kernel_rfl) (by kernel_rfl) (fun _ _ _ h => h) (by rfl) ?_ hS0 ?_
      rotate_left 1
      · intro w' hSw; (try dsimp only at hSw); go_simp; (try with_reducible rfl)
      simp only [Act.put, List.getElem_toArray, List.getElem_cons_succ, List.getElem_cons_zero, List.setIfInBounds_toArray, List.set_cons_zero, List.set_cons_succ]
      refine wpAnyG_take (i := 8) (v := ?_) rfl rfl (by kernel_rfl) (by kernel_rfl) (by kernel_rfl) (by kernel_rfl) (fun _ _ _ h => h) (by rfl) ?_ hS0 ?_
      rotate_left 1
      · intro w' hSw; (try dsimp only at hSw); go_simp; (try with_reducible rfl)
      simp only [Act.put, List.getElem_toArray, List.getElem_cons_succ, List.getElem_cons_zero, List.setIfInBounds_toArray, List.set_cons_zero, List.set_cons_succ]
      refine wpAnyG_take (i := 9) (v := ?_) rfl rfl (by kernel_rfl) (by kernel_rfl) (by kernel_rfl) (by kernel_rfl) (fun _ _ _ h => h) (by rfl) ?_ hS0 ?_
      rotate_left 1
      · intro w' hSw; (try dsimp only at hSw); go_simp; (try with_reducible rfl)
      simp only [Act.put, List.getElem_toArray, List.getElem_cons_succ, List.getElem_cons_zero, List.setIfInBounds_toArray, List.set_cons_zero, List.set_cons_succ]
      refine wpAnyG_ready (rs := [6]) (by kernel_rfl) (by simp) (AllReadyG.cons rfl (fun K5 hK5 => ?_) AllReadyG.nil)
      refine step_append_C (s := 1) (cells := fun x => [str x]) (fun x => one_str x) _ (by rfl) (.tmp 23) (.tmp 28) 29 rfl w1.heap.size 9 i9 _ 16 Try.underlying29 hi9 hz9 hs9 hy9 rfl (by omega) v1 (0 + t1.length) ([] ++ t1.flatMap (fun x => [str x])) (by rfl) HO2.out.drew _ t2 (by rfl) (P2.out.below HDR.out) N2.out (fun x u hu => by rw [List.mem_singleton.1 hu]; rfl) (by unfold maxLen; have := HT.out; have := HDL.out; omega) (by have := HT.out; have := HDL.out; omega) z2 ?_
      intro v3 w4 o3 g3
      have HB4 := Lib.hid (HDR.out.grown g3 z2 (fun g hg => (HO2.out.lt g hg).1))
      have e2 := (HB4.out.cell (p := ⟨w.heap.size, 0, none⟩) hb3l).trans d0
      have e3 := (HB4.out.cell (p := ⟨w.heap.size, 1, none⟩) hb3l).trans d1
      rw [flat_str, flat_str, List.nil_append, ← HM.out] at o3
      have hlen3 : K1.length = 0 + t1.length + t2.length := by rw [hlk, HM2.out]; have := HT.out; have := HDL.out; omega
      have HN3 := Lib.hid (own_NX (f := str) hlen3 o3)
      clear o3 g3
      refine hK5.out _ _ (fun _ => ⟨e2.trans e0.symm, e3.trans e1.symm⟩) ?_
      simp only [Act.put, List.getElem_toArray, List.getElem_cons_succ, List.getElem_cons_zero, List.setIfInBounds_toArray, List.set_cons_zero, List.set_cons_succ]
      refine wpAnyG_ready (rs := [10]) (by kernel_rfl) (by simp) (AllReadyG.cons rfl (fun K10 hK10 => ?_) AllReadyG.nil)
      refine step_callw (by rfl) _ _ (by go_simp) ((HD.out w4 HB4.out).mono ?_)
      rintro e w5 ⟨v5, rfl, o5, b5⟩
      refine ⟨_, rfl, ?_⟩
      have hB5 := HB4.out.trans (b5.mono HB4.out.size)
      have e4 := (hB5.cell (p := ⟨w.heap.size, 0, none⟩) hb3l).trans d0
      have e5 := (hB5.cell (p := ⟨w.heap.size, 1, none⟩) hb3l).trans d1
      have y6 := HY.out.2.2.1.below hB5 hb6
      have g0 := y6.cell 0
      have g1 := y6.cell 1
      have gf := y6.frozen
      simp only [List.getElem?_toArray] at g0 g1
      have hN5 := own_NX (f := i64v) rfl o5
      have hK5' := HN3.out.below b5
      obtain ⟨A5, c5, e5'⟩ := hN5.form
      obtain ⟨A6, c6, e6'⟩ := hK5'.form
      rw [hlp] at e5'
      rw [hlk] at e6'
      subst e5'
      subst e6'
      have HW5 := Lib.hid (WV.mk (n := _) hK5' hN5 hlk hlp hfk)
      have HB5 := Lib.hid (And.intro hB5 y6)
      clear o5 b5 hB5 hN5 hK5' y6
      refine hK10.out _ _ (fun _ => ⟨e4.trans e0.symm, e5.trans e1.symm⟩) ?_
      simp only [Act.put, List.getElem_toArray, List.getElem_cons_succ, List.getElem_cons_zero, List.setIfInBounds_toArray, List.set_cons_zero, List.set_cons_succ]
      refine wpAnyG_ready (rs := [11]) (by kernel_rfl) (by simp) (AllReadyG.cons rfl (fun K11 hK11 => ?_) AllReadyG.nil)
      go_simp
      refine hK11.out _ _ (fun _ => ⟨e4.trans e0.symm, e5.trans e1.symm⟩) ?_
      (try simp only [Act.put, List.getElem_toArray, List.getElem_cons_succ, List.getElem_cons_zero, List.setIfInBounds_toArray, List.set_cons_zero, List.set_cons_succ])
      refine wpAnyG_ready (rs := [12]) (by kernel_rfl) (by simp) (AllReadyG.cons rfl (fun K12 hK12 => ?_) AllReadyG.nil)
      go_simp
      obtain ⟨⟨z0, z1⟩, hP⟩ := words_end (n := _) HB5.out.2 rfl (HY.out.1.trans (HB5.out.1.mono HY.out.1.size)) (by omega) HW5.out HM1.out
      have r0 := (Fr.setCell (S := [w.heap.size + 1]) w5 (w.heap.size + 1) 0 (.slice A6 m1 c6) (by simp)).comp (Fr.setCell _ (w.heap.size + 1) 1 (.slice A5 m1 c5) (by simp))
      refine hK12.out _ _ (fun _ => ⟨(r0.cell e4 (by simp)).trans e0.symm, (r0.cell e5 (by simp)).trans e1.symm⟩) ?_
      refine wpAnyG_done (by kernel_rfl) ?_ _
      clear r0
      go_wp2_with fail
      refine bodyPost_ret (v := .agg #[.slice A6 m1 c6, .slice A5 m1 c5]) (by simp [results, Try.results35, go_sem, z0, z1]) rfl hP
end Go.Proofs.Ytlpcddmcddenfaa.Kp
