/- laws.FnTreesOrder: the walk. -/
import Derived.Test.YtjbelfbfhcmgeaaOrdrA
import Derived.Test.YtjbelfbfhcmgeaaOrIn
import Derived.Test.YtjbelfbfhcmgeaaBtDD
import Derived.Deep.RegionLaw
import Derived.Deep.Cut
namespace Go.Proofs.Ytjbelfbfhcmgeaa.Kp
open Go.RowKit Om Bt

/-- the steps and keys that are kept so far. -/
structure OI (w : World) (xs : List Int) (k : Nat) (P : List ActD) (vP vK : Value) (wx : World) : Prop where
  pr : wx.ownsRow w.heap.size 52 3 vP P.length (actCells P)
  kr : IntS wx vK (P.map ActD.key)
  ok : Puts (rankOf xs) P
  le : P.length ≤ k
  bel : Below w.heap.size w wx
theorem puts_snoc {r : Int → Int} {P : List ActD} {key val : Int} (h : Puts r P) (hu : (P.map ActD.key ++ [key]).Pairwise (fun a b => r a ≠ r b)) : Puts r (P ++ [⟨0, key, val⟩]) := by
  refine ⟨fun a ha => ?_, ?_⟩
  · rcases List.mem_append.1 ha with ha | ha
    · exact h.1 a ha
    · rw [List.mem_singleton.1 ha]
  · rw [List.pairwise_append] at hu ⊢
    refine ⟨h.2, List.pairwise_singleton _ _, fun a ha b hb => ?_⟩
    rw [List.mem_singleton.1 hb]
    exact hu.2.2 a.key (List.mem_map_of_mem ha) key (List.mem_singleton.2 rfl)
theorem sameEq' (xs : List Int) (av bv : Value) (B B' : Nat) (w : World) (ha : SlI w B av xs) (hb : SlI w B' bv xs) (hn : xs.length ≤ 9223372036854775807) :
    Calls Try.prog 25 #[av, bv] w fun e w' => e = .returned (.bool true) ∧ ∃ n, w' = w.drewN n :=
  (same_calls xs xs av bv B B' w ha hb hn).mono fun _ _ h => by simpa using h
theorem own_SlA' {w : World} {B n : Nat} {v : Value} {l : List ActD} (hn : l.length = n) (h : w.ownsRow B 52 3 v n (actCells l)) : SlA w w.heap.size v l := by
  subst hn; exact own_SlA h
theorem IntS.slI {w : World} {v : Value} {xs : List Int} (h : IntS w v xs) : SlI w w.heap.size v xs := by
  rcases h with ⟨rfl, rfl⟩ | ⟨b, off, cap, cur, rfl, h1, h2, h3⟩
  · exact ⟨⟨none, 0, rfl, .inl rfl⟩⟩
  · have hb : Blk w b cur 3 := h2
    refine ⟨⟨_, cap, rfl, .inr ⟨b, off, rfl, h1, hb.lt, hb.lt, fun i a hi j u hj => ?_⟩⟩⟩
    have hl := (List.getElem?_eq_some_iff.1 hi).1
    cases j with
    | succ j => simp [int1] at hj
    | zero =>
      rw [getD_get' hl] at hi
      simp only [int1, List.getElem?_cons_zero, Option.some.injEq] at hj hi
      rw [Nat.mul_one, Nat.add_zero, hb.cell, h3 i hl, hi, hj]
theorem own_none {w : World} {B s n : Nat} {T : TypeId} {v : Value} {xs : List Value} (h : w.ownsRow B T s v n xs) : ∀ m c, v = .slice none m c → m = 0 ∧ c = 0 := fun m c e => by
  rcases h.2 with ⟨e1, _⟩ | ⟨g, cap, cur, e1, _⟩
  · rw [e1] at e; cases e; exact ⟨rfl, rfl⟩
  · rw [e1] at e; cases e
set_option maxRecDepth 100000 in
set_option maxHeartbeats 6400000 in
theorem treesOrder_calls (xs : List Int) (tv av uv : Value) (l : List ActD) (ts : List Int) (w : World) (ht : SlR w w.heap.size tv (xs.map i64v)) (ha : SlA w w.heap.size av l) (hu : SlI w w.heap.size uv ts) :
    Calls Try.prog 6 #[tv, av, uv] w fun e w' => e = .returned (.bool true) ∧ Below w.heap.size w w' := by
  obtain ⟨A, c, rfl⟩ := ht.form
  rw [List.length_map] at *
  obtain ⟨A1, c1, rfl⟩ := ha.form
  obtain ⟨A2, c2, rfl⟩ := hu.form
  have HT := Lib.hid ht
  have HA := Lib.hid ha
  have HU := Lib.hid hu
  clear ht ha hu
  by_cases b1 : (xs.length : Int) ≤ 2147483647
  case neg =>
    go_enter Try.func6, Try.ntmps6
    go_wp2
    go_ret
    exact ⟨rfl, Below.refl _ _⟩
  by_cases b2 : (l.length : Int) ≤ 2147483647
  case neg =>
    go_enter Try.func6, Try.ntmps6
    go_wp2
    go_ret
    exact ⟨rfl, Below.refl _ _⟩
  by_cases b3 : (ts.length : Int) ≤ 2147483647
  case neg =>
    go_enter Try.func6, Try.ntmps6
    go_wp2
    go_ret
    exact ⟨rfl, Below.refl _ _⟩
  obtain ⟨i0, hi0, hz0, hz1, hz2⟩ := info_parts Try.infoAct
  obtain ⟨j0, hj0, hy0, hy1, hy2⟩ := info_parts Try.info3
  go_enter Try.func6, Try.ntmps6
  go_wp2_with fail
  go_loopw [7, 8, 9] (fun vP vK i wx => ∃ k P, k ≤ l.length ∧ i = .int .i64 (k : Nat) ∧ Hid (OI w xs k P vP vK wx)) (fun _ _ i _ => l.length - (intOf i).toNat)
  case atStart => exact ⟨0, [], Nat.zero_le _, rfl, Lib.hid ⟨World.ownsRow_nil _ _ _ _, IntS.nil _, ⟨fun _ h => (by cases h), List.Pairwise.nil⟩, Nat.le_refl _, Below.refl _ _⟩⟩
  case round =>
    obtain ⟨k, P, hk, rfl, HK⟩ := hrel
    by_cases hlt : k < l.length
    · obtain ⟨b, off, a, rfl, g1, g3, g4, _, z0, z1, z2⟩ := HA.out.at_ hlt
      obtain ⟨act, key, val⟩ := a
      have hbel := HK.out.bel
      have q1 := (hbel.cell (p := ⟨b, off + k * 3 + 1, none⟩) g3).trans z1
      have q2 := (hbel.cell (p := ⟨b, off + k * 3 + 2, none⟩) g3).trans z2
      simp only at q1 q2
      have blt : b < wr.heap.size := Nat.lt_of_lt_of_le g4 hbel.size
      have hPl := HK.out.le
      obtain ⟨vp, hvp⟩ : ∃ x, x = u7 := ⟨_, rfl⟩
      obtain ⟨A8, c8, rfl⟩ := HK.out.kr.form
      have hI := HK.out.kr
      have pk0 : (0 : Int) ≤ (k : Int) := by omega
      have pk1 : (k : Int) < (l.length : Int) := by omega
      clear z0 z1 z2 hvp
      obtain ⟨K, hK⟩ : ∃ K, K = P.map ActD.key := ⟨_, rfl⟩
      have hKl : K.length = P.length := by rw [hK]; simp
      rw [← hK] at hI ⊢
      have HKK := Lib.hid (And.intro hK hKl)
      have hKl2 : K.length ≤ 5000000000 := by omega
      clear hK hKl
      go_upto_region 8 with (fail)
      have pa := (Cp1.first hI).drew
      have pc := ((Cp1.first hI).alloc (Obj.cells #[Value.int .i64 key] 3)).drew
      have pb := (Cp1.second hI (Obj.cells #[Value.int .i64 key] 3)).drew
      go_cut [10] (fun s wx => ∃ A9 c9, s = .slice A9 (K.length + 1) c9 ∧ Hid (IntS wx (.slice A9 (K.length + 1) c9) (K ++ [key]) ∧ Below wr.heap.size wr wx))
      case first =>
        go_region_law
          ((first
            | (refine step_append_into rfl (.tmp 38) (.tmp 39) 22 rfl wr.heap.size 3 j0 _ 8 Try.underlying22 hj0 hy0 hy1 hy2 rfl _ 0 0 [] (by rfl) (by with_reducible first | exact pa.own | exact pb.own | exact pc.own) (.slice A8 K.length c8) K (by rfl) (by with_reducible first | exact pa.b | exact pb.b | exact pc.b) (by unfold maxLen; omega) (by omega) (by with_reducible first | exact pa.bel.size | exact pb.bel.size | exact pc.bel.size) _ (by rfl) ?_; intro gg cap w1 hown1 hgrow hat hlt1
               obtain ⟨r1, rm⟩ := Cp1.next (by with_reducible first | exact pa | exact pb | exact pc) hown1 hgrow
               have q1' := (r1.bel.cell (p := ⟨b, off + k * 3 + 1, none⟩) blt).trans q1
               have blt' : b < w1.heap.size := Nat.lt_of_lt_of_le blt r1.bel.size
               clear hown1 hgrow hat hlt1)
            | (refine step_append_lies _ rfl (.tmp 40) (.tmp 46) 22 rfl wr.heap.size 3 j0 _ 1 8 Try.underlying22 hj0 hy0 hy1 hy2 rfl (by omega) (.slice (some ⟨gg, 0, none⟩) K.length cap) K.length (K.map i64v) (by rfl) (by with_reducible first | exact r1.own | exact (r1.alloc _).own) _ 1 1 [.int .i64 key] (by rfl) (by rfl) (news1 (by first | (simp; done) | (refine rm _ _ (by simp) ?_; simp))) (fun _ h => by rw [List.mem_singleton.1 h]; rfl) (by omega) (by unfold maxLen; omega) (by omega) (by with_reducible first | exact r1.le | exact (r1.alloc _).le) _ (by rfl) ?_; intro gv capv w2 hown2 hgrow2 hatv hlt2
               have r2 := Cp2.next (by with_reducible first | exact r1 | exact r1.alloc _) hown2 hgrow2
               clear hown2 hgrow2 hatv hlt2)))
        all_goals
          go_wp2_with fail
          go_meet
          exact ⟨_, _, rfl, Lib.hid ⟨r2.b, r2.bel⟩⟩
      case rest =>
        obtain ⟨A9, c9, rfl, HM⟩ := hcut
        have hKL : (K ++ [key]).length = K.length + 1 := by simp
        have HC1 := Lib.hid (hbel.trans (HM.out.2.mono hbel.size))
        have Hpr := Lib.hid (kd_below HM.out.2 HK.out.pr)
        have Hkr := Lib.hid (HK.out.kr.keep (KeepsInts.below HM.out.2))
        have q1c := (HM.out.2.cell (p := ⟨b, off + k * 3 + 1, none⟩) blt).trans q1
        have q2c := (HM.out.2.cell (p := ⟨b, off + k * 3 + 2, none⟩) blt).trans q2
        have hsl := HM.out.1.slI
        rw [← hKL] at hsl
        have HUL := Lib.hid (unlike_calls xs (K ++ [key]) (.slice A xs.length c) (.slice A9 (K.length + 1) c9) wc ((HT.out.below HC1.out).mono HC1.out.size) (by rw [← hKL]; exact hsl) (by rw [hKL]; omega))
        have bltc : b < wc.heap.size := Nat.lt_of_lt_of_le blt HM.out.2.size
        clear hsl hKL pa pb pc q1 q2 blt hI
        go_wp2_with fail
        refine HUL.out.mono ?_
        rintro e w3 ⟨bb, n3, rfl, hb3, rfl⟩
        have HB3 := Lib.hid hb3
        clear hb3 HUL
        cases bb with
        | false =>
          go_wp2_with fail
          refine ⟨⟨k + 1, P, by omega, by go_num, Lib.hid ⟨Hpr.out, ?_, HK.out.ok, by have := HK.out.le; omega, HC1.out.trans (Below.drewN _ _)⟩⟩, by simp [intOf]; omega⟩
          rw [← HKK.out.1] at Hkr ⊢
          exact Hkr.out
        | true =>
          have HPN := Lib.hid (puts_snoc (val := val) HK.out.ok (by rw [← HKK.out.1]; exact HB3.out rfl))
          obtain ⟨A7, c7, rfl⟩ := kd_form Hpr.out
          have Hpr3 := Lib.hid (show (wc.drewN n3).ownsRow w.heap.size 52 3 (.slice A7 P.length c7) P.length (actCells P) from Hpr.out)
          have HM3 := Lib.hid (show IntS (wc.drewN n3) (.slice A9 (K.length + 1) c9) (K ++ [key]) from HM.out.1)
          have HC3 := Lib.hid (HC1.out.trans (Below.drewN wc n3))
          replace q1c : (wc.drewN n3).cell? ⟨b, off + k * 3 + 1, none⟩ = _ := q1c
          replace q2c : (wc.drewN n3).cell? ⟨b, off + k * 3 + 2, none⟩ = _ := q2c
          replace bltc : b < (wc.drewN n3).heap.size := bltc
          have hKP := HKK.out.2
          clear Hpr HM HC1 HB3 Hkr
          generalize wc.drewN n3 = V at *
          have hVs := HC3.out.size
          go_upto_region 11 with (fail)
          have po := ((Hpr3.out).alloc (Obj.cells #[.int .i64 0, .int .i64 key, .int .i64 val] 52)).drew
          have ple : w.heap.size ≤ ((V.alloc (Obj.cells #[.int .i64 0, .int .i64 key, .int .i64 val] 52)).drew).heap.size := by
            show _ ≤ (V.alloc _).heap.size
            simp; omega
          go_region_law
            (refine step_append_lies _ rfl (.tmp 52) (.tmp 64) 23 rfl w.heap.size 52 i0 _ 3 24 Try.underlying23 hi0 hz0 hz1 hz2 rfl (by omega) (.slice A7 P.length c7) P.length (actCells P) (by rfl) (by with_reducible exact po) _ 1 1 [.int .i64 0, .int .i64 key, .int .i64 val] (by rfl) (by rfl) (news_blk (Blk.new V _ _)) (by simp [Value.oneCell']) (by omega) (by unfold maxLen; omega) (by omega) (by with_reducible exact ple) _ (by rfl) ?_; intro gv capv w4 hown4 hgrow4 hatv hlt4)
          all_goals
            have hpr2 : w4.ownsRow w.heap.size 52 3 (.slice (some ⟨gv, 0, none⟩) (P.length + 1) capv) (P ++ [(⟨0, key, val⟩ : ActD)]).length (actCells (P ++ [⟨0, key, val⟩])) := by
              rw [actCells_append, List.length_append]; exact hown4
            have hki : KeepsInts V w4 := (KeepsInts.below ((Below.refl _ V).alloc (Nat.le_refl _) _)).trans (KeepsInts.grown (w := (V.alloc (Obj.cells #[.int .i64 0, .int .i64 key, .int .i64 val] 52)).drew) hgrow4 (fun g hg => by
              obtain ⟨cur, hc⟩ := own_type po g hg
              exact ⟨cur, _, hc, by decide⟩))
            have hbl4 : Below w.heap.size w w4 := ((HC3.out.alloc hVs _).drew).grown hgrow4 ple (fun g hg => (po.lt g hg).1)
            have hkr4 : IntS w4 (.slice A9 (P.length + 1) c9) ((P ++ [(⟨0, key, val⟩ : ActD)]).map ActD.key) := by
              have h := HM3.out.keep hki
              rw [hKP, HKK.out.1] at h
              rw [List.map_append]; exact h
            have hfin := Lib.hid (OI.mk (k := k + 1) (vP := .slice (some ⟨gv, 0, none⟩) (P.length + 1) capv) (vK := .slice A9 (P.length + 1) c9) hpr2 hkr4 HPN.out (by have := HK.out.le; simp; omega) hbl4)
            clear hpr2 hki hbl4 hkr4 hown4 hgrow4 hatv hlt4 po ple
            go_wp2_with fail
            exact ⟨⟨k + 1, _, by omega, by go_num, hfin⟩, by simp [intOf]; omega⟩
    · have : k = l.length := by omega
      subst this
      obtain ⟨A7, c7, rfl⟩ := kd_form HK.out.pr
      obtain ⟨A8, c8, rfl⟩ := HK.out.kr.form
      have HPA := Lib.hid (own_SlA' rfl HK.out.pr)
      have HNP := Lib.hid (own_none HK.out.pr)
      have hPl := HK.out.le
      have hml : (P.map ActD.key).length = P.length := by simp
      rw [hml]
      have HB := Lib.hid HK.out.bel
      have HOK := Lib.hid HK.out.ok
      clear HK hml
      go_wp2_with (at_builtin; first
        | (refine wpList_append_C actCell_len _ rfl (.tmp 66) (.tmp 67) 23 rfl wr.heap.size 52 i0 _ 24 Try.underlying23 hi0 hz0 hz1 hz2 rfl (by omega) _ 0 [] rfl (own_empty wr _ 3) _ P rfl (HPA.out.toC.below ((Below.refl _ wr).alloc (Nat.le_refl _) _)) HNP.out (by intro a; simp [actCell, Value.oneCell']) (by unfold maxLen; omega) (by omega) (by simp) ?_
           intro v1 w1 hown1 hgrow1
           have B1 : Below wr.heap.size wr w1 := ((Below.refl _ wr).alloc (Nat.le_refl _) _).grown hgrow1 (by simp) (fun g hg => (own_empty wr 52 3).lt g hg |>.1))
        | (refine wpList_append_own _ rfl (.tmp 68) (.tmp 70) 23 rfl wr.heap.size 52 i0 _ 3 24 Try.underlying23 hi0 hz0 hz1 hz2 rfl (by omega) v1 (0 + P.length) _ rfl (hown1.alloc _) ⟨w1.heap.size, 0, none⟩ 1 1 [.int .i64 4, .int .i64 0, .int .i64 0] rfl rfl (news_blk (Blk.new w1 _ _)) (by simp [Value.oneCell']) (by unfold maxLen; omega) (by omega) (by have := B1.size; simp; omega) ?_
           intro v2 w2 hown2 hgrow2 _))
      have B2 : Below wr.heap.size wr w2 := (B1.alloc B1.size _).grown hgrow2 (by have := B1.size; simp; omega) (fun g hg => (hown1.lt g hg).1)
      have hr2 : SlA w2 w2.heap.size v2 (P ++ [⟨4, 0, 0⟩]) := own_SlA' (n := 0 + P.length + 1) (by simp) (by rw [actCells_append]; exact hown2)
      have H2 := Lib.hid (And.intro hr2 (And.intro B2 (HB.out.trans (B2.mono HB.out.size))))
      clear hown1 hown2 hgrow1 hgrow2 B1 B2 hr2
      go_wp2_with fail
      refine (turned_calls _ _ P ts w2 ((HPA.out.below H2.out.2.1).mono H2.out.2.1.size) HNP.out ((HU.out.below H2.out.2.2).mono H2.out.2.2.size) (by omega) (by omega)).mono ?_
      rintro e w3 ⟨v3, L, rfl, o3, hperm, B3⟩
      have HP3 := Lib.hid (And.intro hperm B3)
      have hL3 := hperm.length_eq
      have b3s := B3.size
      clear hperm B3
      go_wp2_with (at_builtin; (refine wpList_append_own _ rfl (.tmp 74) (.tmp 76) 23 rfl w2.heap.size 52 i0 _ 3 24 Try.underlying23 hi0 hz0 hz1 hz2 rfl (by omega) v3 P.length _ rfl (o3.alloc _) ⟨w3.heap.size, 0, none⟩ 1 1 [.int .i64 4, .int .i64 0, .int .i64 0] rfl rfl (news_blk (Blk.new w3 _ _)) (by simp [Value.oneCell']) (by unfold maxLen; omega) (by omega) (by simp; omega) ?_))
      intro v4 w4 hown4 hgrow4 _
      have B4 : Below w2.heap.size w2 w4 := (HP3.out.2.alloc b3s _).grown hgrow4 (by simp; omega) (fun g hg => (o3.lt g hg).1)
      have hr4 : SlA w4 w4.heap.size v4 (L ++ [⟨4, 0, 0⟩]) := own_SlA' (n := P.length + 1) (by simp [hL3]) (by rw [actCells_append]; exact hown4)
      have H4 := Lib.hid (And.intro hr4 (And.intro ((H2.out.1.below B4).mono B4.size) (H2.out.2.2.trans (B4.mono H2.out.2.2.size))))
      clear o3 hown4 hgrow4 B4 hr4 H2 b3s
      go_wp2_with fail
      go_loopw [13] (fun i wx => ∃ k : Nat, k ≤ 2 ∧ i = .int .i64 k ∧ Hid (Below w4.heap.size w4 wx)) (fun i _ => 2 - (intOf i).toNat)
      case atStart => exact ⟨0, by omega, rfl, Lib.hid (Below.refl _ _)⟩
      case round =>
        obtain ⟨k, hk, rfl, HK⟩ := hrel
        by_cases hlt2 : k < 2
        · have hk01 : k = 0 ∨ k = 1 := by omega
          have HR : ∃ R M, OrdOk (rankOf xs) R P L M ∧ ∃ F, F = (if k = 0 then 20 else 9) ∧ ∀ (l' : List ActD) (v' : Value) (w' : World), Below w.heap.size w w' → SlA w' w'.heap.size v' l' → l'.length ≤ 7000000000 → Calls Try.prog F #[.slice A xs.length c, v'] w' fun e w'' => ∃ v'', e = .returned v'' ∧ Tolds w'' w'.heap.size v'' (R l') ∧ Below w'.heap.size w' w'' := by
            rcases hk01 with rfl | rfl
            · exact ⟨_, _, avl_ord xs HOK.out HP3.out.1.symm, _, rfl, fun l' v' w' hb h1 h2 => avlRun_calls xs _ v' l' w' ((HT.out.below hb).mono hb.size) h1 h2⟩
            · exact ⟨_, _, btree_ord xs HOK.out HP3.out.1.symm, _, rfl, fun l' v' w' hb h1 h2 => btreeRun_calls xs _ v' l' w' ((HT.out.below hb).mono hb.size) h1 h2⟩
          obtain ⟨R, M, hok, F, hF, hrun⟩ := HR
          have HRK := Lib.hid hok
          have HRUN := Lib.hid hrun
          have HBW := Lib.hid (H4.out.2.2.trans (HK.out.mono H4.out.2.2.size))
          have HA4 := Lib.hid ((H4.out.2.1.below HK.out).mono HK.out.size)
          have HB4 := Lib.hid ((H4.out.1.below HK.out).mono HK.out.size)
          clear hok hrun hk hlt2
          rcases hk01 with rfl | rfl
          all_goals
            simp only [if_true, if_false, Nat.succ_ne_zero] at hF
            subst hF
            go_wp2_with fail
            refine (HRUN.out (P ++ [⟨4, 0, 0⟩]) v2 wr (H4.out.2.2.trans (HK.out.mono H4.out.2.2.size)) HA4.out (by simp; omega)).mono ?_
            rintro e w5 ⟨v5, rfl, T5, B5⟩
            rw [HRK.out.a] at T5
            have H5 := Lib.hid (And.intro T5 (And.intro (HK.out.trans (B5.mono HK.out.size)) ((HB4.out.below B5).mono B5.size)))
            clear T5 B5 HA4 HB4 HBW HK
            go_wp2_with fail
            refine (treeLast_calls _ v5 _ _ w5 H5.out.1 (by rw [HRK.out.len.1]; omega)).mono ?_
            rintro e w6 ⟨q, rfl, hLast, B6⟩
            obtain ⟨ka, kc, va, vc, rfl, s1, s2, n1, n2, _, _⟩ := hLast.is
            simp only [List.length_map, HRK.out.pl] at s1 s2 n1 n2 ⊢
            have z6 := Blk.new w6 #[.int .i64 0, .bool false, .slice ka P.length kc, .slice va P.length vc] 50
            have b6 : Below w6.heap.size w6 (w6.alloc (Obj.cells #[.int .i64 0, .bool false, .slice ka P.length kc, .slice va P.length vc] 50)) := (Below.refl _ w6).alloc (Nat.le_refl _) _
            have H6 := Lib.hid (And.intro z6 (And.intro ((s1.below b6).mono b6.size) (And.intro ((s2.below b6).mono b6.size) (And.intro ((H5.out.2.1.trans (B6.mono H5.out.2.1.size)).trans (b6.mono (H5.out.2.1.trans (B6.mono H5.out.2.1.size)).size)) (((H5.out.2.2.below B6).mono B6.size).below b6 |>.mono b6.size)))))
            clear z6 b6 s1 s2 hLast B6 H5
            go_upto_region 21 with (fail)
            generalize hz : w6.heap.size = z at H6 ⊢
            generalize w6.alloc (Obj.cells #[.int .i64 0, .bool false, .slice ka P.length kc, .slice va P.length vc] 50) = W1 at H6 ⊢
            clear hz
            go_wp2_with fail
            refine (HRUN.out (L ++ [⟨4, 0, 0⟩]) v4 W1 (H4.out.2.2.trans (H6.out.2.2.2.1.mono H4.out.2.2.size)) H6.out.2.2.2.2 (by simp; omega)).mono ?_
            rintro e w7 ⟨v7, rfl, T7, B7⟩
            rw [HRK.out.b] at T7
            have H7 := Lib.hid (And.intro T7 B7)
            clear T7 B7
            go_wp2_with fail
            refine (treeLast_calls _ v7 _ _ w7 H7.out.1 (by rw [HRK.out.len.2]; omega)).mono ?_
            rintro e w8 ⟨q, rfl, hLast, B8⟩
            obtain ⟨ka2, kc2, va2, vc2, rfl, s1, s2, m1, m2, _, _⟩ := hLast.is
            simp only [List.length_map, HRK.out.pl] at s1 s2 m1 m2 ⊢
            have z8 := Blk.new w8 #[.int .i64 0, .bool false, .slice ka2 P.length kc2, .slice va2 P.length vc2] 50
            have b8 : Below w8.heap.size w8 (w8.alloc (Obj.cells #[.int .i64 0, .bool false, .slice ka2 P.length kc2, .slice va2 P.length vc2] 50)) := (Below.refl _ w8).alloc (Nat.le_refl _) _
            have b78 := (H7.out.2.trans (B8.mono H7.out.2.size)).trans (b8.mono (H7.out.2.trans (B8.mono H7.out.2.size)).size)
            have H8 := Lib.hid (And.intro z8 (And.intro ((s1.below b8).mono b8.size) (And.intro ((s2.below b8).mono b8.size) (And.intro (H6.out.1.below b78 H6.out.1.lt) (And.intro ((H6.out.2.1.below b78).mono b78.size) (And.intro ((H6.out.2.2.1.below b78).mono b78.size) (H6.out.2.2.2.1.trans (b78.mono H6.out.2.2.2.1.size))))))))
            clear z8 b8 b78 s1 s2 hLast B8 H7 H6
            go_upto_region 22 with (fail)
            generalize hz : w8.heap.size = z2 at H8 ⊢
            generalize w8.alloc (Obj.cells #[.int .i64 0, .bool false, .slice ka2 P.length kc2, .slice va2 P.length vc2] 50) = W2 at H8 ⊢
            clear hz
            have c2 : W2.cell? ⟨z, 2, none⟩ = some (.slice ka P.length kc) := H8.out.2.2.2.1.cell 2
            have c3 : W2.cell? ⟨z, 3, none⟩ = some (.slice va P.length vc) := H8.out.2.2.2.1.cell 3
            have d2 : W2.cell? ⟨z2, 2, none⟩ = some (.slice ka2 P.length kc2) := H8.out.1.cell 2
            have d3 : W2.cell? ⟨z2, 3, none⟩ = some (.slice va2 P.length vc2) := H8.out.1.cell 3
            have e2 : ((P.length : Int) != (P.length : Int)) = false := by simp
            have hM1 : (M.map Prod.fst).length ≤ 9223372036854775807 := by rw [List.length_map, HRK.out.pl]; omega
            have hM2 : (M.map Prod.snd).length ≤ 9223372036854775807 := by rw [List.length_map, HRK.out.pl]; omega
            have HS1 := Lib.hid (sameEq' (M.map Prod.fst) _ _ _ _ W2 H8.out.2.2.2.2.1 H8.out.2.1 hM1)
            have HS2 := Lib.hid (fun n => sameEq' (M.map Prod.snd) _ _ _ _ (W2.drewN n) (H8.out.2.2.2.2.2.1.below (Below.drewN W2 n)) (H8.out.2.2.1.below (Below.drewN W2 n)) hM2)
            clear hM1 hM2
            go_wp2_with fail
            refine HS1.out.mono ?_
            rintro e w9 ⟨rfl, n9, rfl⟩
            have HS3 := Lib.hid (HS2.out n9)
            have HF := Lib.hid (H8.out.2.2.2.2.2.2.trans (Below.drewN W2 n9))
            replace c3 : (W2.drewN n9).cell? ⟨z, 3, none⟩ = some (.slice va P.length vc) := c3
            replace d3 : (W2.drewN n9).cell? ⟨z2, 3, none⟩ = some (.slice va2 P.length vc2) := d3
            clear HS1 HS2 H8 c2 d2
            generalize W2.drewN n9 = W3 at *
            go_wp2_with fail
            refine HS3.out.mono ?_
            rintro e w10 ⟨rfl, n10, rfl⟩
            have HF2 := Lib.hid (HF.out.trans (Below.drewN W3 n10))
            clear HF HS3 c3 d3
            go_wp2_with fail
            first
              | exact ⟨⟨1, by omega, by first | rfl | go_num, HF2⟩, by simp [intOf]⟩
              | exact ⟨⟨2, by omega, by first | rfl | go_num, HF2⟩, by simp [intOf]⟩
        · have : k = 2 := by omega
          subst this
          have HF := Lib.hid (H4.out.2.2.trans (HK.out.mono H4.out.2.2.size))
          clear H4 HK
          go_wp2_with fail
          go_ret
          exact ⟨rfl, HF.out⟩
end Go.Proofs.Ytjbelfbfhcmgeaa.Kp
