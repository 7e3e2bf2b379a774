/- laws.FnTreesRise: the walk. -/
import Derived.Test.YtjbelfbfhcmgeaaRise0
import Derived.Test.YtjbelfbfhcmgeaaBtD2
import Derived.Test.YtjbelfbfhcmgeaaBtL
import Derived.Deep.Cut
namespace Go.Proofs.Ytjbelfbfhcmgeaa.Kp
open Go.RowKit Om Bt

theorem own_SlA' {w : World} {B n : Nat} {v : Value} {l : List ActD} (hn : l.length = n) (h : w.ownsRow B 52 3 v n (actCells l)) : SlA w w.heap.size v l := by
  subst hn; exact own_SlA h
theorem actCells_flat (l : List ActD) : l.flatMap actCell = actCells l := rfl
theorem cells3_drew {w3 w : World} {p0 p1 p2 : Addr} {v0 v1 v2 : Value} (m : Nat) (h : w.cell? p0 = some v0 ∧ w.cell? p1 = some v1 ∧ w.cell? p2 = some v2 ∧ ∃ n, w = w3.drewN n) :
    (w.drewN m).cell? p0 = some v0 ∧ (w.drewN m).cell? p1 = some v1 ∧ (w.drewN m).cell? p2 = some v2 ∧ ∃ n, w.drewN m = w3.drewN n := by
  obtain ⟨h0, h1, h2, n, rfl⟩ := h
  exact ⟨h0, h1, h2, _, World.drewN_drewN _ _ _⟩
theorem take_succ'' {α : Type} {l : List α} {k : Nat} {e : α} (h : l[k]? = some e) : l.take (k + 1) = l.take k ++ [e] := by
  rw [List.take_add_one, h]; rfl
theorem cells4_drew {w3 w : World} {p0 p1 p2 p3 : Addr} {v0 v1 v2 v3 : Value} (m : Nat) (h : w.cell? p0 = some v0 ∧ w.cell? p1 = some v1 ∧ w.cell? p2 = some v2 ∧ w.cell? p3 = some v3 ∧ ∃ n, w = w3.drewN n) :
    (w.drewN m).cell? p0 = some v0 ∧ (w.drewN m).cell? p1 = some v1 ∧ (w.drewN m).cell? p2 = some v2 ∧ (w.drewN m).cell? p3 = some v3 ∧ ∃ n, w.drewN m = w3.drewN n := by
  obtain ⟨h0, h1, h2, h3, n, rfl⟩ := h
  exact ⟨h0, h1, h2, h3, _, World.drewN_drewN _ _ _⟩
/-- the asks so far. -/
structure AskI (W : World) (l : List ActD) (P : R) (j : Nat) (v : Value) (wx : World) : Prop where
  own : wx.ownsRow W.heap.size 52 3 v (l.length + 1 + j) (actCells (asksOf l (P.take j)))
  bel : Below W.heap.size W wx
theorem asksOf_snoc' (l : List ActD) (P : R) {j : Nat} {p : Int × Int} (h : P[j]? = some p) : asksOf l (P.take (j + 1)) = asksOf l (P.take j) ++ [⟨2, p.1, 0⟩] := by
  unfold asksOf
  rw [take_succ'' h]; simp
theorem rises_at {r : Int → Int} {P : R} (h : Rises r P) {i j : Nat} {p q : Int × Int} (hi : P[i]? = some p) (hj : P[j]? = some q) (hl : i < j) : r p.1 < r q.1 := by
  obtain ⟨a, ha⟩ := List.getElem?_eq_some_iff.1 hi
  obtain ⟨b, hb⟩ := List.getElem?_eq_some_iff.1 hj
  have := List.pairwise_iff_getElem.1 h i j a b hl
  rwa [ha, hb] at this
theorem fst_at {P : R} {i : Nat} {p : Int × Int} (h : P[i]? = some p) (hl : i < (P.map Prod.fst).length) : (P.map Prod.fst)[i] = p.1 := by
  have : (P.map Prod.fst)[i]? = some p.1 := by rw [List.getElem?_map, h]; rfl
  rw [List.getElem?_eq_getElem hl] at this
  simpa using this
theorem snd_at {P : R} {i : Nat} {p : Int × Int} (h : P[i]? = some p) (hl : i < (P.map Prod.snd).length) : (P.map Prod.snd)[i] = p.2 := by
  have : (P.map Prod.snd)[i]? = some p.2 := by rw [List.getElem?_map, h]; rfl
  rw [List.getElem?_eq_getElem hl] at this
  simpa using this
set_option maxRecDepth 100000 in
set_option maxHeartbeats 6400000 in
theorem treesRise_calls (xs : List Int) (tv av : Value) (l : List ActD) (w : World) (ht : SlR w w.heap.size tv (xs.map i64v)) (ha : SlA w w.heap.size av l) (hna : ∀ m c, av = .slice none m c → m = 0 ∧ c = 0) :
    Calls Try.prog 7 #[tv, av] w fun e w' => e = .returned (.bool true) ∧ Below w.heap.size w w' := by
  obtain ⟨A, c, rfl⟩ := ht.form
  rw [List.length_map] at *
  obtain ⟨A1, c1, rfl⟩ := ha.form
  have HT := Lib.hid ht
  have HA := Lib.hid ha
  have HNA := Lib.hid hna
  clear ht ha hna
  by_cases b1 : (xs.length : Int) ≤ 2147483647
  case neg =>
    go_enter Try.func7, Try.ntmps7
    go_wp2
    go_ret
    exact ⟨rfl, Below.refl _ _⟩
  by_cases b2 : (l.length : Int) ≤ 2147483647
  case neg =>
    go_enter Try.func7, Try.ntmps7
    go_wp2
    go_ret
    exact ⟨rfl, Below.refl _ _⟩
  obtain ⟨i0, hi0, hz0, hz1, hz2⟩ := info_parts Try.infoAct
  go_enter Try.func7, Try.ntmps7
  go_wp2_with fail
  go_loopw [5] (fun i wr => ∃ k : Nat, k ≤ 2 ∧ i = .int .i64 k ∧ Hid (Below w.heap.size w wr)) (fun i _ => 2 - (intOf i).toNat)
  case atStart => exact ⟨0, by omega, rfl, Lib.hid (Below.refl _ _)⟩
  case round =>
    obtain ⟨k, hk, rfl, HB⟩ := hrel
    by_cases hlt : k < 2
    · have hk01 : k = 0 ∨ k = 1 := by omega
      have HL := Lib.hid ((HT.out.below HB.out).mono HB.out.size)
      have HLA := Lib.hid (show SlA wr w.heap.size (.slice A1 l.length c1) l from HA.out.below HB.out)
      clear hk hlt
      have HR : ∃ R P k0, RunOk (rankOf xs) R l P k0 ∧ (k = 0 → k0 = true) ∧ ∃ F, F = (if k = 0 then 20 else 9) ∧ ∀ (l' : List ActD) (v' : Value) (w' : World), Below w.heap.size w w' → SlA w' w'.heap.size v' l' → l'.length ≤ 7000000000 → Calls Try.prog F #[.slice A xs.length c, v'] w' fun e w'' => ∃ v'', e = .returned v'' ∧ Tolds w'' w'.heap.size v'' (R l') ∧ Below w'.heap.size w' w'' := by
        rcases hk01 with rfl | rfl
        · exact ⟨_, _, _, avl_ok xs l, fun _ => rfl, _, rfl, fun l' v' w' hb h1 h2 => avlRun_calls xs _ v' l' w' ((HT.out.below hb).mono hb.size) h1 h2⟩
        · exact ⟨_, _, _, btree_ok xs l, (fun h => by cases h), _, rfl, fun l' v' w' hb h1 h2 => btreeRun_calls xs _ v' l' w' ((HT.out.below hb).mono hb.size) h1 h2⟩
      obtain ⟨R, P, k0, hok, hk0, F, hF, hrun⟩ := HR
      have HOK := Lib.hid (And.intro hok hk0)
      have HRUN := Lib.hid hrun
      have hkl : l.length ≤ 2147483647 := by omega
      clear hok hk0 hrun
      rcases hk01 with rfl | rfl
      all_goals
        simp only [if_true, if_false, Nat.succ_ne_zero] at hF
        subst hF
        go_upto_region 9 with (fail)
        go_wp2_with (at_builtin; first
          | (refine wpList_append_C actCell_len _ rfl (.tmp 31) (.tmp 32) 23 rfl wr.heap.size 52 i0 _ 24 Try.underlying23 hi0 hz0 hz1 hz2 rfl (by omega) _ 0 [] rfl (own_empty wr _ 3) _ l rfl (HLA.out.toC.below ((Below.refl _ wr).alloc HB.out.size _)) HNA.out (by intro a; simp [actCell, Value.oneCell']) (by unfold maxLen; omega) (by omega) (by simp) ?_
             intro v1 w1 hown1 hgrow1
             have B1 : Below wr.heap.size wr w1 := ((Below.refl _ wr).alloc (Nat.le_refl _) _).grown hgrow1 (by simp) (fun g hg => (own_empty wr 52 3).lt g hg |>.1))
          | (refine wpList_append_own _ rfl (.tmp 33) (.tmp 35) 23 rfl wr.heap.size 52 i0 _ 3 24 Try.underlying23 hi0 hz0 hz1 hz2 rfl (by omega) v1 (0 + l.length) _ rfl (hown1.alloc _) ⟨w1.heap.size, 0, none⟩ 1 1 [.int .i64 4, .int .i64 0, .int .i64 0] rfl rfl (news_blk (Blk.new w1 _ _)) (by simp [Value.oneCell']) (by unfold maxLen; omega) (by omega) (by have := B1.size; simp; omega) ?_
             intro v2 w2 hown2 hgrow2 _))
        have B2 : Below wr.heap.size wr w2 := (B1.alloc B1.size _).grown hgrow2 (by have := B1.size; simp; omega) (fun g hg => (hown1.lt g hg).1)
        have hr2 : SlA w2 w2.heap.size v2 (l ++ [⟨4, 0, 0⟩]) := own_SlA' (n := 0 + l.length + 1) (by simp) (by rw [actCells_append]; exact hown2)
        have H2 := Lib.hid (And.intro hr2 B2)
        clear hown1 hown2 hgrow1 hgrow2 B1 B2 hr2
        go_wp2_with fail
        refine (HRUN.out (l ++ [⟨4, 0, 0⟩]) v2 w2 (HB.out.trans (H2.out.2.mono HB.out.size)) H2.out.1 (by simp; omega)).mono ?_
        rintro e w3 ⟨v3, rfl, T3, B3⟩
        rw [HOK.out.1.all] at T3
        have H3 := Lib.hid (And.intro T3 (H2.out.2.trans (B3.mono H2.out.2.size)))
        clear T3 B3 H2
        go_wp2_with fail
        refine (treeLast_calls _ v3 _ _ w3 H3.out.1 (by rw [HOK.out.1.len]; omega)).mono ?_
        rintro e w4 ⟨u, rfl, hLast, B4⟩
        obtain ⟨ka, kc, va, vc, rfl, s1, s2, n1, n2, _, _⟩ := hLast.is
        have H4 := Lib.hid (And.intro s1 (And.intro s2 (H3.out.2.trans (B4.mono H3.out.2.size))))
        simp only [List.length_map] at H4 n1 ⊢
        clear s1 s2 n1 n2 hLast B4 H3
        have hpl := HOK.out.1.pl
        have e2 : ((P.length : Int) != (P.length : Int)) = false := by simp
        go_upto_region 12 with (fail)
        have z4 := Blk.new w4 #[.int .i64 0, .bool false, .slice ka P.length kc, .slice va P.length vc] 50
        have b4 : Below w4.heap.size w4 (w4.alloc (Obj.cells #[.int .i64 0, .bool false, .slice ka P.length kc, .slice va P.length vc] 50)) := (Below.refl _ w4).alloc (Nat.le_refl _) _
        have HZ := Lib.hid (And.intro z4 (And.intro ((H4.out.1.below b4).mono b4.size) (And.intro ((H4.out.2.1.below b4).mono b4.size) (H4.out.2.2.trans (b4.mono H4.out.2.2.size)))))
        clear z4 b4 H4
        generalize hz : w4.heap.size = z at HZ ⊢
        generalize w4.alloc (Obj.cells #[.int .i64 0, .bool false, .slice ka P.length kc, .slice va P.length vc] 50) = W at HZ ⊢
        clear hz
        go_wp2_with (at_builtin; first
          | (refine wpList_append_C actCell_len _ rfl (.tmp 52) (.tmp 53) 23 rfl W.heap.size 52 i0 _ 24 Try.underlying23 hi0 hz0 hz1 hz2 rfl (by omega) _ 0 [] rfl (own_empty W _ 3) _ l rfl (HLA.out.toC.below (HZ.out.2.2.2.mono HB.out.size |>.trans ((Below.refl _ W).alloc (Nat.le_trans HB.out.size HZ.out.2.2.2.size) _))) HNA.out (by intro a; simp [actCell, Value.oneCell']) (by unfold maxLen; omega) (by omega) (by simp) ?_
             intro v1' w1' hown1 hgrow1
             have B1 : Below W.heap.size W w1' := ((Below.refl _ W).alloc (Nat.le_refl _) _).grown hgrow1 (by simp) (fun g hg => (own_empty W 52 3).lt g hg |>.1))
          | (refine wpList_append_own _ rfl (.tmp 54) (.tmp 56) 23 rfl W.heap.size 52 i0 _ 3 24 Try.underlying23 hi0 hz0 hz1 hz2 rfl (by omega) v1' (0 + l.length) _ rfl (hown1.alloc _) ⟨w1'.heap.size, 0, none⟩ 1 1 [.int .i64 3, .int .i64 0, .int .i64 0] rfl rfl (news_blk (Blk.new w1' _ _)) (by simp [Value.oneCell']) (by unfold maxLen; omega) (by omega) (by have := B1.size; simp; omega) ?_
             intro v2' w2' hown2 hgrow2 _))
        have B2 : Below W.heap.size W w2' := (B1.alloc B1.size _).grown hgrow2 (by have := B1.size; simp; omega) (fun g hg => (hown1.lt g hg).1)
        have H5 : AskI W l P 0 v2' w2' := ⟨by
          have e : asksOf l (P.take 0) = l ++ [⟨3, 0, 0⟩] := rfl
          rw [e, actCells_append, Nat.add_zero, show l.length + 1 = 0 + l.length + 1 by omega]; exact hown2, B2⟩
        replace H5 := Lib.hid H5
        clear hown1 hown2 hgrow1 hgrow2 B1 B2
        have HBW := Lib.hid (HB.out.trans (HZ.out.2.2.2.mono HB.out.size))
        replace HZ := Lib.hid (And.intro HZ.out.1 (And.intro HZ.out.2.1 HZ.out.2.2.1))
        clear HL HLA HB
        go_loopw [9, 10] (fun v i wx => ∃ j : Nat, j ≤ P.length ∧ i = .int .i64 (j : Nat) ∧ Hid (AskI W l P j v wx)) (fun _ i _ => P.length - (intOf i).toNat)
        case atStart => exact ⟨0, Nat.zero_le _, rfl, H5⟩
        case round =>
          obtain ⟨j, hj, rfl, HK⟩ := hrel
          have HBK := Lib.hid (HBW.out.trans (HK.out.bel.mono HBW.out.size))
          have hzl := HZ.out.1.lt
          have Zr := HZ.out.1.below HK.out.bel hzl
          have d2 : wr.cell? ⟨z, 2, none⟩ = some (.slice ka P.length kc) := Zr.cell 2
          have kr := HZ.out.2.1.below HK.out.bel
          by_cases hlt : j < P.length
          · obtain ⟨p, hp⟩ : ∃ p, P[j]? = some p := ⟨_, List.getElem?_eq_getElem hlt⟩
            obtain ⟨kb, ko, rfl, k1, k2, k3⟩ := it1_at kr (show j < (P.map Prod.fst).length by simpa using hlt)
            rw [fst_at hp] at k3
            rw [List.length_map] at k1
            have HTr := Lib.hid ((HT.out.below HBK.out).mono HBK.out.size)
            have HP := Lib.hid hp
            have HKR := Lib.hid kr
            clear hp Zr kr
            have p0 : (0 : Int) ≤ (j : Int) := by omega
            have p1 : (j : Int) < (P.length : Int) := by omega
            obtain ⟨w0, hw0⟩ : ∃ w0, w0 = wr := ⟨_, rfl⟩
            rw [← hw0] at HTr
            go_upto_region 16 with (fail)
            go_cut [84] (fun s wx => s = .bool false ∧ ∃ n, wx = wr.drewN n)
            case first =>
              by_cases c0 : j = 0
              · subst c0
                refine region_runs (S := (fun w' => w'.cell? ⟨z, 2, none⟩ = some (.slice (some ⟨kb, ko, none⟩) P.length kc) ∧ w'.cell? ⟨kb, ko + 0, none⟩ = some (.int .i64 p.1) ∧ w'.cell? ⟨kb, ko + 0, none⟩ = some (.int .i64 p.1) ∧ ∃ n, w' = wr.drewN n)) (by kernel_rfl) (by kernel_rfl) (by kernel_rfl) (cells3_drew 1 ⟨d2, k3, k3, 0, rfl⟩) ?_
                iterate 20
                  first
                  | (refine Runs.off (by rfl) ?_
                     simp only [Act.put, List.setIfInBounds_toArray, List.set_cons_zero, List.set_cons_succ])
                  | (refine Runs.take (v := ?_) (by rfl) ?_ ?_
                     rotate_left 1
                     · intro w hSw; (try dsimp only at hSw); go_simp; (try with_reducible rfl)
                     simp only [Act.put, List.setIfInBounds_toArray, List.set_cons_zero, List.set_cons_succ])
                  | fail
                dsimp only [Runs]
                intro w' hH
                go_wp2_with fail
                go_meet
                exact ⟨rfl, hH.2.2.2⟩
              · obtain ⟨q, hq⟩ : ∃ q, P[j - 1]? = some q := ⟨_, List.getElem?_eq_getElem (by omega)⟩
                obtain ⟨kb', ko', hbo, _, _, k4⟩ := it1_at HKR.out (show j - 1 < (P.map Prod.fst).length by rw [List.length_map]; omega)
                obtain ⟨rfl, rfl⟩ : kb = kb' ∧ ko = ko' := by simpa using hbo
                rw [fst_at hq] at k4
                have hrk := rises_at HOK.out.1.rise hq HP.out (by omega)
                obtain ⟨p', hp'⟩ : ∃ x, x = p.1 := ⟨_, rfl⟩
                obtain ⟨p1', hp1'⟩ : ∃ x, x = q.1 := ⟨_, rfl⟩
                rw [← hp', ← hp1'] at hrk
                rw [← hp'] at k3
                rw [← hp1'] at k4
                have g0 : decide (0 < (j : Int)) = true := decide_eq_true (by omega)
                have g1 : IntKind.i64.wrap ((j : Int) - 1) = (j : Int) - 1 := IntWalk.i64_in _ (by omega)
                have g2 : ((j : Int) - 1).toNat = j - 1 := by omega
                have g3 : (0 : Int) ≤ (j : Int) - 1 := by omega
                have g4 : (j : Int) - 1 < (P.length : Int) := by omega
                have g5 : decide (rankOf xs p' ≤ rankOf xs p1') = false := decide_eq_false (by omega)
                have g6 : 0 < j := by omega
                have g7 : (1 : Int) ≤ (j : Int) := by omega
                clear hbo hq hrk hp' hp1'
                refine region_runs (S := (fun w' => w'.cell? ⟨z, 2, none⟩ = some (.slice (some ⟨kb, ko, none⟩) P.length kc) ∧ w'.cell? ⟨kb, ko + (j - 1), none⟩ = some (.int .i64 p1') ∧ w'.cell? ⟨kb, ko + j, none⟩ = some (.int .i64 p') ∧ ∃ n, w' = wr.drewN n)) (by kernel_rfl) (by kernel_rfl) (by kernel_rfl) (cells3_drew 1 ⟨d2, k4, k3, 0, rfl⟩) ?_
                iterate 20
                  first
                  | (refine Runs.off (by rfl) ?_
                     simp only [Act.put, List.setIfInBounds_toArray, List.set_cons_zero, List.set_cons_succ])
                  | (refine Runs.take (v := ?_) (by rfl) ?_ ?_
                     rotate_left 1
                     · intro w hSw; (try dsimp only at hSw); go_simp; (try with_reducible rfl)
                     simp only [Act.put, List.setIfInBounds_toArray, List.set_cons_zero, List.set_cons_succ])
                  | (refine Runs.call (v := ?_) (f := ?_) (args := ?_) (by rfl) ?_ ?_ ?_
                     rotate_left 3
                     · intro w hSw; (try dsimp only at hSw); go_simp; (first | with_reducible rfl | (refine ⟨?_, ?_⟩ <;> with_reducible rfl))
                     · intro w hSw
                       first
                       | (go_at_call_of 17 (p1'); obtain ⟨m, hm⟩ := hSw.2.2.2; refine (specRank_calls xs (.slice A xs.length c) w0.heap.size p1' w (by rw [hm, ← hw0]; exact HTr.out.drewN m)).mono ?_; rintro e w' ⟨rfl, rfl⟩; refine ⟨?_, hSw⟩; (try with_reducible rfl))
                       | (go_at_call_of 17 (p'); obtain ⟨m, hm⟩ := hSw.2.2.2; refine (specRank_calls xs (.slice A xs.length c) w0.heap.size p' w (by rw [hm, ← hw0]; exact HTr.out.drewN m)).mono ?_; rintro e w' ⟨rfl, rfl⟩; refine ⟨?_, hSw⟩; (try with_reducible rfl))
                     simp only [Act.put, List.setIfInBounds_toArray, List.set_cons_zero, List.set_cons_succ])
                  | fail
                dsimp only [Runs]
                intro w' hH
                go_wp2_with fail
                go_meet
                exact ⟨by first | rfl | (simp [g5]; done) | (simp; omega), hH.2.2.2⟩
            case rest =>
              obtain ⟨rfl, n, hw⟩ := hcut
              have d2' : wc.cell? ⟨z, 2, none⟩ = some (.slice (some ⟨kb, ko, none⟩) P.length kc) := by rw [hw]; exact d2
              have k3' : wc.cell? ⟨kb, ko + j, none⟩ = some (.int .i64 p.1) := by rw [hw]; exact k3
              have HK2 := Lib.hid (show AskI W l P j u9 wc by rw [hw]; exact ⟨HK.out.own, HK.out.bel.trans (Below.drewN _ _)⟩)
              have HP1 := Lib.hid (asksOf_snoc' l P HP.out)
              clear hw d2 k3 HK HKR HTr hw0
              generalize p.1 = p' at *
              go_wp2_with (at_builtin; go_loud (refine wpList_append_own _ rfl (.tmp 85) (.tmp 92) 23 rfl W.heap.size 52 i0 _ 3 24 Try.underlying23 hi0 hz0 hz1 hz2 rfl (by omega) u9 (l.length + 1 + j) _ rfl (HK2.out.own.alloc _) ⟨wc.heap.size, 0, none⟩ 1 1 [.int .i64 2, .int .i64 p', .int .i64 0] rfl rfl (news_blk (Blk.new wc _ _)) (by simp [Value.oneCell']) (by unfold maxLen; omega) (by omega) (by have := HK2.out.bel.size; simp; omega) ?_; intro v9 w9 hown9 hgrow9 _))
              exact ⟨⟨j + 1, by omega, by go_num, Lib.hid ⟨by rw [HP1.out, actCells_append]; exact hown9, (HK2.out.bel.alloc HK2.out.bel.size _).grown hgrow9 (by have := HK2.out.bel.size; simp; omega) (fun g hg => (HK2.out.own.lt g hg).1)⟩⟩, by simp [intOf]; omega⟩
          · have : j = P.length := by omega
            subst this
            have hown := HK.out.own
            rw [List.take_length] at hown
            have hsl := Lib.hid (own_SlA' (by unfold asksOf; simp; omega) hown)
            obtain ⟨A9, c9, rfl⟩ := kd_form hown
            clear hown Zr kr
            obtain ⟨N, hN⟩ : ∃ N, N = l.length + 1 + P.length := ⟨_, rfl⟩
            rw [← hN] at hsl ⊢
            have hN1 : N ≤ 5000000000 := by omega
            have HN := Lib.hid hN
            clear hN
            go_wp2_with fail
            refine (HRUN.out (asksOf l P) _ wr HBK.out hsl.out (by have := HN.out; unfold asksOf; simp; omega)).mono ?_
            rintro e w5 ⟨v5, rfl, T5, B5⟩
            obtain ⟨d, hd, hdk⟩ := HOK.out.1.asks
            rw [hd] at T5
            obtain ⟨A5, c5, rfl, hT5⟩ := Kp.Tolds.tw T5
            have hlen5 : (R l ++ d :: P.map (fun p => (⟨p.2, true, [], []⟩ : ToldD))).length = N := by
              rw [List.length_append, HOK.out.1.len, List.length_cons, List.length_map]; have := HN.out; omega
            rw [hlen5] at hT5 ⊢
            have hd0 : (R l ++ d :: P.map (fun p => (⟨p.2, true, [], []⟩ : ToldD)))[l.length]? = some d := by
              rw [List.getElem?_append_right (by rw [HOK.out.1.len]; omega), HOK.out.1.len, Nat.sub_self]; rfl
            have hdi : ∀ (i : Nat) p, P[i]? = some p → (R l ++ d :: P.map (fun p => (⟨p.2, true, [], []⟩ : ToldD)))[l.length + 1 + i]? = some ⟨p.2, true, [], []⟩ := by
              intro i p hp
              rw [List.getElem?_append_right (by rw [HOK.out.1.len]; omega), HOK.out.1.len, show l.length + 1 + i - l.length = i + 1 by omega, List.getElem?_cons_succ, List.getElem?_map, hp]; rfl
            obtain ⟨g, ka5, va5, rfl, hc5, hTa⟩ := hT5 _ _ hd0
            have HT5 := Lib.hid (fun (i : Nat) (p : Int × Int) (hp : P[i]? = some p) => hT5 _ _ (hdi i p hp))
            have HB5 := Lib.hid (HBK.out.trans (B5.mono HBK.out.size))
            have B5' := HK.out.bel.trans (B5.mono HK.out.bel.size)
            have Z5 := HZ.out.1.below B5' hzl
            have HZ5 := Lib.hid (And.intro Z5 ((HZ.out.2.2.below B5').mono B5'.size))
            have y2 : w5.cell? ⟨z, 2, none⟩ = some (.slice ka P.length kc) := Z5.cell 2
            have y3 := hTa.c0
            obtain ⟨dv, hdv⟩ : ∃ x, x = d.val := ⟨_, rfl⟩
            rw [← hdv] at y3
            have hdv2 := fun h => hdv.trans (hdk (HOK.out.2 h))
            clear hdv
            (first
              | (have e5 : (dv != ((P.length : Nat) : Int)) = false := by rw [hdv2 (by first | exact trivial | rfl)]; simp)
              | skip)
            clear hdv2
            have e3 : ((P.length : Int) != (P.length : Int)) = false := by simp
            have e4 : ((N : Int) != (N : Int)) = false := by simp
            have q1 : (0 : Int) ≤ (l.length : Int) := by omega
            have q2 : (l.length : Int) < (N : Int) := by have := HN.out; omega
            clear hd hdk hlen5 hd0 hdi hT5 hTa T5 B5 B5' Z5 hsl d2
            go_upto_region 20 with (fail)
            go_cut [118] (fun s wx => s = .bool false ∧ ∃ n, wx = w5.drewN n)
            case first =>
              refine region_runs (S := (fun w' => w'.cell? ⟨z, 2, none⟩ = some (.slice ka P.length kc) ∧ w'.cell? ⟨g, l.length * 4, none⟩ = some (.int .i64 dv) ∧ w'.cell? ⟨g, l.length * 4, none⟩ = some (.int .i64 dv) ∧ ∃ n, w' = w5.drewN n)) (by kernel_rfl) (by kernel_rfl) (by kernel_rfl) (cells3_drew 1 ⟨y2, y3, y3, 0, rfl⟩) ?_
              iterate 21
                first
                | (refine Runs.off (by rfl) ?_
                   simp only [Act.put, List.setIfInBounds_toArray, List.set_cons_zero, List.set_cons_succ])
                | (refine Runs.take (v := ?_) (by rfl) ?_ ?_
                   rotate_left 1
                   · intro w hSw; (try dsimp only at hSw); go_simp; (try with_reducible rfl)
                   simp only [Act.put, List.setIfInBounds_toArray, List.set_cons_zero, List.set_cons_succ])
                | fail
              dsimp only [Runs]
              intro w' hH
              go_wp2_with fail
              go_meet
              exact ⟨rfl, hH.2.2.2⟩
            case rest =>
              obtain ⟨rfl, n5, hw5⟩ := hcut
              have HB6 := Lib.hid (show Below w5.heap.size w5 wc by rw [hw5]; exact Below.drewN _ _)
              clear hw5 y2 y3 HZ HK HBK
              go_wp2_with fail
              go_loopw [12] (fun i wx => ∃ j : Nat, j ≤ P.length ∧ i = .int .i64 (j : Nat) ∧ Hid (Below w5.heap.size w5 wx)) (fun i _ => P.length - (intOf i).toNat)
              case atStart => exact ⟨0, Nat.zero_le _, rfl, HB6⟩
              case round =>
                obtain ⟨j, hj, rfl, HK⟩ := hrel
                have zl := HZ5.out.1.lt
                have Zr := HZ5.out.1.below HK.out zl
                have d2 : wr.cell? ⟨z, 2, none⟩ = some (.slice ka P.length kc) := Zr.cell 2
                have d3 : wr.cell? ⟨z, 3, none⟩ = some (.slice va P.length vc) := Zr.cell 3
                have zlr := Zr.lt
                have vr := HZ5.out.2.below HK.out
                clear Zr zl
                by_cases hlt : j < P.length
                · obtain ⟨p, hp⟩ : ∃ p, P[j]? = some p := ⟨_, List.getElem?_eq_getElem hlt⟩
                  obtain ⟨vb, vo, rfl, k1, k2, k3⟩ := it1_at vr (show j < (P.map Prod.snd).length by simpa using hlt)
                  rw [snd_at hp] at k3
                  rw [List.length_map] at k1
                  obtain ⟨g', ka', va', hg', _, hTa⟩ := HT5.out j p hp
                  obtain rfl : g = g' := by simpa using hg'
                  have hTr := hTa.below HK.out
                  obtain ⟨hA1, hc1, rfl⟩ := hTr.ks.form
                  obtain ⟨hA2, hc2', rfl⟩ := hTr.vs.form
                  have t0 : wr.cell? ⟨g, (l.length + 1 + j) * 4, none⟩ = some (.int .i64 p.2) := hTr.c0
                  have t1 : wr.cell? ⟨g, (l.length + 1 + j) * 4 + 1, none⟩ = some (.bool true) := hTr.c1
                  have t2 := hTr.c2
                  have t3 := hTr.c3
                  have tl := hTr.lt
                  have kl : vb < wr.heap.size := World.block_lt_of_cell? wr _ k3
                  clear hTr hTa hg' vr
                  generalize p.2 = pv at *
                  have p0 : (0 : Int) ≤ (j : Int) := by omega
                  have p1 : (j : Int) < (P.length : Int) := by omega
                  have r0 : (0 : Int) ≤ (l.length : Int) + 1 + (j : Int) := by omega
                  have r1 : (l.length : Int) + 1 + (j : Int) < (N : Int) := by have := HN.out; omega
                  have r2 : ((l.length : Int) + 1 + (j : Int)).toNat = l.length + 1 + j := by omega
                  have r3 : IntKind.i64.wrap ((l.length : Int) + 1 + (j : Int)) = (l.length : Int) + 1 + (j : Int) := IntWalk.i64_in _ (by omega)
                  have r4 : IntKind.i64.wrap ((l.length : Int) + 1) = (l.length : Int) + 1 := IntWalk.i64_in _ (by omega)
                  go_upto_region 25 with (fail)
                  have HKA := Lib.hid (HK.out.alloc HK.out.size (Obj.cells #[.int .i64 pv, .bool true, .slice hA1 0 hc1, .slice hA2 0 hc2'] 50))
                  have nb := Blk.new wr #[.int .i64 pv, .bool true, .slice hA1 0 hc1, .slice hA2 0 hc2'] 50
                  have x0 : (wr.alloc (Obj.cells #[.int .i64 pv, .bool true, .slice hA1 0 hc1, .slice hA2 0 hc2'] 50)).cell? ⟨wr.heap.size, 0, none⟩ = some (.int .i64 pv) := nb.cell 0
                  have x1 : (wr.alloc (Obj.cells #[.int .i64 pv, .bool true, .slice hA1 0 hc1, .slice hA2 0 hc2'] 50)).cell? ⟨wr.heap.size, 1, none⟩ = some (.bool true) := nb.cell 1
                  have x2 : (wr.alloc (Obj.cells #[.int .i64 pv, .bool true, .slice hA1 0 hc1, .slice hA2 0 hc2'] 50)).cell? ⟨z, 3, none⟩ = some (.slice (some ⟨vb, vo, none⟩) P.length vc) := (Below.cell ((Below.refl wr.heap.size wr).alloc (Nat.le_refl _) _) (p := ⟨z, 3, none⟩) zlr).trans d3
                  have x3 : (wr.alloc (Obj.cells #[.int .i64 pv, .bool true, .slice hA1 0 hc1, .slice hA2 0 hc2'] 50)).cell? ⟨vb, vo + j, none⟩ = some (.int .i64 pv) := (Below.cell ((Below.refl wr.heap.size wr).alloc (Nat.le_refl _) _) (p := ⟨vb, vo + j, none⟩) kl).trans k3
                  have hwl : wr.heap.size = wr.heap.size := rfl
                  clear nb
                  go_upto_region 26 with (fail)
                  generalize hb : wr.heap.size = bb at x0 x1 ⊢
                  generalize wr.alloc (Obj.cells #[.int .i64 pv, .bool true, .slice hA1 0 hc1, .slice hA2 0 hc2'] 50) = W6 at *
                  clear hb d2 d3 t0 t1 t2 t3 tl k3 kl zlr hwl HK
                  have e6 : (pv != pv) = false := by simp
                  go_cut [146] (fun s wx => s = .bool false ∧ ∃ n, wx = W6.drewN n)
                  case first =>
                    refine region_runs (S := (fun w' => w'.cell? ⟨bb, 0, none⟩ = some (.int .i64 pv) ∧ w'.cell? ⟨bb, 1, none⟩ = some (.bool true) ∧ w'.cell? ⟨z, 3, none⟩ = some (.slice (some ⟨vb, vo, none⟩) P.length vc) ∧ w'.cell? ⟨vb, vo + j, none⟩ = some (.int .i64 pv) ∧ ∃ n, w' = W6.drewN n)) (by kernel_rfl) (by kernel_rfl) (by kernel_rfl) (cells4_drew 1 ⟨x0, x1, x2, x3, 0, rfl⟩) ?_
                    iterate 13
                      first
                      | (refine Runs.off (by rfl) ?_
                         simp only [Act.put, List.setIfInBounds_toArray, List.set_cons_zero, List.set_cons_succ])
                      | (refine Runs.take (v := ?_) (by rfl) ?_ ?_
                         rotate_left 1
                         · intro w hSw; (try dsimp only at hSw); go_simp; (try with_reducible rfl)
                         simp only [Act.put, List.setIfInBounds_toArray, List.set_cons_zero, List.set_cons_succ])
                      | fail
                    dsimp only [Runs]
                    intro w' hH
                    go_wp2_with fail
                    go_meet
                    exact ⟨rfl, hH.2.2.2.2⟩
                  case rest =>
                    obtain ⟨rfl, n6, hw6⟩ := hcut
                    have HK7 := Lib.hid (show Below w5.heap.size w5 wc by rw [hw6]; exact HKA.out.trans (Below.drewN _ _))
                    clear hw6 x0 x1 x2 x3 HKA
                    go_wp2_with fail
                    exact ⟨⟨j + 1, by omega, by go_num, HK7⟩, by simp [intOf]; omega⟩
                · have : j = P.length := by omega
                  subst this
                  have HF := Lib.hid (HB5.out.trans (HK.out.mono HB5.out.size))
                  clear HB5 HK
                  go_wp2_with fail
                  first
                    | exact ⟨⟨1, by omega, by first | rfl | go_num, HF⟩, by simp [intOf]⟩
                    | exact ⟨⟨2, by omega, by first | rfl | go_num, HF⟩, by simp [intOf]⟩
    · have : k = 2 := by omega
      subst this
      have HB' := HB
      go_wp2_with fail
      go_ret
      exact ⟨rfl, HB'.out⟩
end Go.Proofs.Ytjbelfbfhcmgeaa.Kp
