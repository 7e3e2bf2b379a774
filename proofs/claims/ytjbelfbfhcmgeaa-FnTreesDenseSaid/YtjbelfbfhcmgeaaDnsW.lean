/- laws.FnTreesDense: the walk. -/
import Derived.Test.YtjbelfbfhcmgeaaDnsA
import Derived.Test.YtjbelfbfhcmgeaaBtDD
import Derived.Deep.Cut
namespace Go.Proofs.Ytjbelfbfhcmgeaa.Kp
open Go.RowKit Om Bt

theorem cells16_next {wr w w' : World} {p0 p1 p2 p3 p4 p5 p6 p7 p8 p9 p10 p11 p12 p13 p14 p15 : Addr} {v0 v1 v2 v3 v4 v5 v6 v7 v8 v9 v10 v11 v12 v13 v14 v15 : Value} (hb : Below w.heap.size w w') (h : w.cell? p0 = some v0 ∧ w.cell? p1 = some v1 ∧ w.cell? p2 = some v2 ∧ w.cell? p3 = some v3 ∧ w.cell? p4 = some v4 ∧ w.cell? p5 = some v5 ∧ w.cell? p6 = some v6 ∧ w.cell? p7 = some v7 ∧ w.cell? p8 = some v8 ∧ w.cell? p9 = some v9 ∧ w.cell? p10 = some v10 ∧ w.cell? p11 = some v11 ∧ w.cell? p12 = some v12 ∧ w.cell? p13 = some v13 ∧ w.cell? p14 = some v14 ∧ w.cell? p15 = some v15 ∧ Below wr.heap.size wr w) : w'.cell? p0 = some v0 ∧ w'.cell? p1 = some v1 ∧ w'.cell? p2 = some v2 ∧ w'.cell? p3 = some v3 ∧ w'.cell? p4 = some v4 ∧ w'.cell? p5 = some v5 ∧ w'.cell? p6 = some v6 ∧ w'.cell? p7 = some v7 ∧ w'.cell? p8 = some v8 ∧ w'.cell? p9 = some v9 ∧ w'.cell? p10 = some v10 ∧ w'.cell? p11 = some v11 ∧ w'.cell? p12 = some v12 ∧ w'.cell? p13 = some v13 ∧ w'.cell? p14 = some v14 ∧ w'.cell? p15 = some v15 ∧ Below wr.heap.size wr w' := by
  obtain ⟨h0, h1, h2, h3, h4, h5, h6, h7, h8, h9, h10, h11, h12, h13, h14, h15, hz⟩ := h
  have k : ∀ {p : Addr} {v : Value}, w.cell? p = some v → w'.cell? p = some v := fun hc => (hb.cell (World.block_lt_of_cell? w _ hc)).trans hc
  exact ⟨k h0, k h1, k h2, k h3, k h4, k h5, k h6, k h7, k h8, k h9, k h10, k h11, k h12, k h13, k h14, k h15, hz.trans (hb.mono hz.size)⟩
def S16 (wr : World) (k g1 g2 g3 g4 : Nat) (d q : ToldD) (ka1 va1 ka2 va2 ka3 va3 ka4 va4 : Value) (w : World) : Prop :=
  w.cell? ⟨g1, k * 4, none⟩ = some (.int .i64 d.val) ∧ w.cell? ⟨g1, k * 4 + 1, none⟩ = some (.bool d.ok) ∧ w.cell? ⟨g1, k * 4 + 2, none⟩ = some ka1 ∧ w.cell? ⟨g1, k * 4 + 3, none⟩ = some va1 ∧ w.cell? ⟨g2, k * 4, none⟩ = some (.int .i64 d.val) ∧ w.cell? ⟨g2, k * 4 + 1, none⟩ = some (.bool d.ok) ∧ w.cell? ⟨g2, k * 4 + 2, none⟩ = some ka2 ∧ w.cell? ⟨g2, k * 4 + 3, none⟩ = some va2 ∧ w.cell? ⟨g3, k * 4, none⟩ = some (.int .i64 q.val) ∧ w.cell? ⟨g3, k * 4 + 1, none⟩ = some (.bool q.ok) ∧ w.cell? ⟨g3, k * 4 + 2, none⟩ = some ka3 ∧ w.cell? ⟨g3, k * 4 + 3, none⟩ = some va3 ∧ w.cell? ⟨g4, k * 4, none⟩ = some (.int .i64 q.val) ∧ w.cell? ⟨g4, k * 4 + 1, none⟩ = some (.bool q.ok) ∧ w.cell? ⟨g4, k * 4 + 2, none⟩ = some ka4 ∧ w.cell? ⟨g4, k * 4 + 3, none⟩ = some va4 ∧ Below wr.heap.size wr w
theorem S16.next {wr : World} {k g1 g2 g3 g4 : Nat} {d q : ToldD} {ka1 va1 ka2 va2 ka3 va3 ka4 va4 : Value} {w w' : World} (hb : Below w.heap.size w w') (h : S16 wr k g1 g2 g3 g4 d q ka1 va1 ka2 va2 ka3 va3 ka4 va4 w) : S16 wr k g1 g2 g3 g4 d q ka1 va1 ka2 va2 ka3 va3 ka4 va4 w' := cells16_next hb h
theorem S16.bel {wr : World} {k g1 g2 g3 g4 : Nat} {d q : ToldD} {ka1 va1 ka2 va2 ka3 va3 ka4 va4 : Value} {w : World} (h : S16 wr k g1 g2 g3 g4 d q ka1 va1 ka2 va2 ka3 va3 ka4 va4 w) : Below wr.heap.size wr w := h.2.2.2.2.2.2.2.2.2.2.2.2.2.2.2.2
set_option maxRecDepth 100000 in
set_option maxHeartbeats 6400000 in
theorem treesDense_calls (xs : List Int) (tv av : Value) (l : List ActD) (w : World) (ht : SlR w w.heap.size tv (xs.map i64v)) (ha : SlA w w.heap.size av l) :
    Calls Try.prog 5 #[tv, av] w fun e w' => e = .returned (.bool true) ∧ Below w.heap.size w w' := by
  obtain ⟨A, c, rfl⟩ := ht.form
  rw [List.length_map] at *
  obtain ⟨A1, c1, rfl⟩ := ha.form
  have HT := Lib.hid ht
  have HA := Lib.hid ha
  clear ht ha
  by_cases b1 : (xs.length : Int) ≤ 2147483647
  case neg =>
    go_enter Try.func5, Try.ntmps5
    go_wp2
    go_ret
    exact ⟨rfl, Below.refl _ _⟩
  by_cases b2 : (l.length : Int) ≤ 2147483647
  case neg =>
    go_enter Try.func5, Try.ntmps5
    go_wp2
    go_ret
    exact ⟨rfl, Below.refl _ _⟩
  obtain ⟨es1, es2⟩ := dense_same xs l
  obtain ⟨D1, hD1⟩ : ∃ D, D = runN xs l := ⟨_, rfl⟩
  obtain ⟨D2, hD2⟩ : ∃ D, D = (runB (rankOf xs) newB l).2 := ⟨_, rfl⟩
  rw [← hD1] at es1
  rw [← hD2] at es2
  have hn1 : D1.length = l.length := by rw [hD1]; exact runA_len xs l .nil
  have hn2 : D2.length = l.length := by rw [hD2]; exact runB_len _ l _
  have HE := Lib.hid (And.intro hD1 (And.intro hD2 (And.intro es1 es2)))
  have HN := Lib.hid (And.intro hn1 hn2)
  have H0 := Lib.hid (dense_calls xs _ w HT.out (by omega))
  have hl : l.length ≤ 7000000000 := by omega
  clear es1 es2 hD1 hD2 hn1 hn2
  go_enter Try.func5, Try.ntmps5
  go_wp2_with fail
  refine H0.out.mono ?_
  rintro e w1 ⟨dv, rfl, hdv, B1⟩
  have HD := Lib.hid hdv
  have HB1 := Lib.hid B1
  clear hdv B1 H0
  go_wp2_with fail
  refine (avlRun_calls xs _ _ l w1 ((HT.out.below HB1.out).mono HB1.out.size) ((HA.out.below HB1.out).mono HB1.out.size) hl).mono ?_
  rintro e w2 ⟨v1, rfl, T1, B2⟩
  rw [← HE.out.1] at T1
  have HT1 := Lib.hid (Kp.Tolds.tw T1)
  have HB2 := Lib.hid B2
  have HC2 := Lib.hid (HB1.out.trans (B2.mono HB1.out.size))
  clear T1 B2
  go_wp2_with fail
  refine (avlRun_calls (denseOf xs) _ _ l w2 ((HD.out.below HB2.out).mono HB2.out.size) ((HA.out.below HC2.out).mono HC2.out.size) hl).mono ?_
  rintro e w3 ⟨v2, rfl, T2, B3⟩
  rw [HE.out.2.2.1] at T2
  have HT2 := Lib.hid (Kp.Tolds.tw T2)
  have HT1 := Lib.hid (HT1.out.below B3)
  have HD := Lib.hid ((HD.out.below HB2.out).mono HB2.out.size |>.below B3 |>.mono B3.size)
  have HC3 := Lib.hid (HC2.out.trans (B3.mono HC2.out.size))
  clear T2 B3 HB2 HC2 HB1
  go_wp2_with fail
  refine (btreeRun_calls xs _ _ l w3 ((HT.out.below HC3.out).mono HC3.out.size) ((HA.out.below HC3.out).mono HC3.out.size) hl).mono ?_
  rintro e w4 ⟨v3, rfl, T3, B4⟩
  rw [← HE.out.2.1] at T3
  have HT3 := Lib.hid (Kp.Tolds.tw T3)
  have HT2 := Lib.hid (HT2.out.below B4)
  have HT1 := Lib.hid (HT1.out.below B4)
  have HD := Lib.hid (HD.out.below B4 |>.mono B4.size)
  have HC4 := Lib.hid (HC3.out.trans (B4.mono HC3.out.size))
  clear T3 B4 HC3
  go_wp2_with fail
  refine (btreeRun_calls (denseOf xs) _ _ l w4 HD.out ((HA.out.below HC4.out).mono HC4.out.size) hl).mono ?_
  rintro e w5 ⟨v4, rfl, T4, B5⟩
  rw [HE.out.2.2.2] at T4
  have HT4 := Lib.hid (Kp.Tolds.tw T4)
  have HT3 := Lib.hid (HT3.out.below B5)
  have HT2 := Lib.hid (HT2.out.below B5)
  have HT1 := Lib.hid (HT1.out.below B5)
  have HC5 := Lib.hid (HC4.out.trans (B5.mono HC4.out.size))
  clear T4 B5 HC4 HD
  obtain ⟨A4, c4, rfl, t4⟩ := HT4.out
  obtain ⟨A3, c3, rfl, t3⟩ := HT3.out
  obtain ⟨A2, c2, rfl, t2⟩ := HT2.out
  obtain ⟨A5, c5, rfl, t1⟩ := HT1.out
  rw [HN.out.1] at t1 t2 ⊢
  rw [HN.out.2] at t3 t4 ⊢
  have HTT := Lib.hid (And.intro t1 (And.intro t2 (And.intro t3 t4)))
  clear t1 t2 t3 t4 HT1 HT2 HT3 HT4
  have e2 : ((l.length : Int) != (l.length : Int)) = false := by simp
  go_wp2_with fail
  clear e2
  go_loopw [10] (fun i wr => ∃ k : Nat, k ≤ l.length ∧ i = .int .i64 k ∧ Hid (Below w5.heap.size w5 wr)) (fun i _ => l.length - (intOf i).toNat)
  case atStart => exact ⟨0, Nat.zero_le _, rfl, Lib.hid (Below.refl _ _)⟩
  case round =>
    obtain ⟨k, hk, rfl, HB⟩ := hrel
    by_cases hlt : k < l.length
    · obtain ⟨d, hd⟩ : ∃ d, D1[k]? = some d := ⟨_, List.getElem?_eq_getElem (by have := HN.out.1; omega)⟩
      obtain ⟨q, hq⟩ : ∃ d, D2[k]? = some d := ⟨_, List.getElem?_eq_getElem (by have := HN.out.2; omega)⟩
      obtain ⟨g1, ka1, va1, rfl, hc1, T1⟩ := HTT.out.1 k d hd
      obtain ⟨g2, ka2, va2, rfl, hc2, T2⟩ := HTT.out.2.1 k d hd
      obtain ⟨g3, ka3, va3, rfl, hc3, T3⟩ := HTT.out.2.2.1 k q hq
      obtain ⟨g4, ka4, va4, rfl, hc4, T4⟩ := HTT.out.2.2.2 k q hq
      replace T1 := T1.below HB.out
      replace T2 := T2.below HB.out
      replace T3 := T3.below HB.out
      replace T4 := T4.below HB.out
      have H1 := Lib.hid (fun (w' : World) (hb : Below wr.heap.size wr w') => treeSame_calls d ka1 va1 ka2 va2 w' (T1.below hb).ks (T1.below hb).vs (T2.below hb).ks (T2.below hb).vs T1.kl T1.vl)
      have H2 := Lib.hid (fun (w' : World) (hb : Below wr.heap.size wr w') => treeSame_calls q ka3 va3 ka4 va4 w' (T3.below hb).ks (T3.below hb).vs (T4.below hb).ks (T4.below hb).vs T3.kl T3.vl)
      have p0 : (0 : Int) ≤ (k : Int) := by omega
      have p1 : (k : Int) < (l.length : Int) := by omega
      have HC := Lib.hid (show S16 wr k g1 g2 g3 g4 d q ka1 va1 ka2 va2 ka3 va3 ka4 va4 wr from ⟨T1.c0, T1.c1, T1.c2, T1.c3, T2.c0, T2.c1, T2.c2, T2.c3, T3.c0, T3.c1, T3.c2, T3.c3, T4.c0, T4.c1, T4.c2, T4.c3, Below.refl wr.heap.size wr⟩)
      clear T1 T2 T3 T4 hd hq
      go_wp2_with fail
      go_cut [86] (fun s wx => s = .bool false ∧ Below wr.heap.size wr wx)
      case first =>
        refine region_runs (S := (S16 wr k g1 g2 g3 g4 d q ka1 va1 ka2 va2 ka3 va3 ka4 va4)) (by kernel_rfl) (by kernel_rfl) (by kernel_rfl) (S16.next (w' := wr.drew) (Below.drewN wr 1) HC.out) ?_
        iterate 22
          first
          | (refine Runs.off (by rfl) ?_
             simp only [Act.put, List.setIfInBounds_toArray, List.set_cons_zero, List.set_cons_succ])
          | (refine Runs.take (v := ?_) (by rfl) ?_ ?_
             rotate_left 1
             · intro w hSw; (have hSw2 := hSw; dsimp only [S16] at hSw2); go_simp; (try with_reducible rfl)
             simp only [Act.put, List.setIfInBounds_toArray, List.set_cons_zero, List.set_cons_succ])
          | (refine Runs.call (v := ?_) (f := ?_) (args := ?_) (by rfl) ?_ ?_ ?_
             rotate_left 3
             · intro w hSw; (have hSw2 := hSw; dsimp only [S16] at hSw2); go_simp; (first | with_reducible rfl | (refine ⟨?_, ?_⟩ <;> with_reducible rfl))
             · intro w hSw
               go_at_call 21
               first
               | (with_reducible refine (H1.out w hSw.bel).mono ?_)
               | (with_reducible refine (H2.out w hSw.bel).mono ?_)
               rintro e' w' ⟨rfl, hb⟩
               refine ⟨?_, S16.next hb hSw⟩
               (try with_reducible rfl)
             simp only [Act.put, List.setIfInBounds_toArray, List.set_cons_zero, List.set_cons_succ])
          | fail
        dsimp only [Runs]
        intro w' hH
        go_wp2_with fail
        go_meet
        exact ⟨rfl, hH.bel⟩
      case rest =>
        obtain ⟨rfl, hH⟩ := hcut
        have HB2 := Lib.hid (HB.out.trans (hH.mono HB.out.size))
        clear hH HC H1 H2
        go_wp2_with fail
        exact ⟨⟨k + 1, by omega, by go_num, HB2⟩, by simp [intOf]; omega⟩
    · have : k = l.length := by omega
      subst this
      have HF := Lib.hid (HC5.out.trans (HB.out.mono HC5.out.size))
      clear HC5 HB
      go_wp2_with fail
      go_ret
      exact ⟨rfl, HF.out⟩
end Go.Proofs.Ytjbelfbfhcmgeaa.Kp
