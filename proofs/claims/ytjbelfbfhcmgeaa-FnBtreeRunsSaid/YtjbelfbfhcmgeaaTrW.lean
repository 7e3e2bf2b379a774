/- spec.Trees: the walk. -/
import Derived.Test.YtjbelfbfhcmgeaaTrS
namespace Go.Proofs.Ytjbelfbfhcmgeaa.Kp
open Go.RowKit Om Bt

set_option maxRecDepth 100000 in
set_option maxHeartbeats 25600000 in
theorem trees_calls (xs : List Int) (tv av : Value) (l : List ActD) (w : World) (ht : SlR w w.heap.size tv (xs.map i64v)) (ha : SlA w w.heap.size av l) (hl : l.length ≤ 5000000000) :
    Calls Try.prog 10 #[tv, av] w fun e w' => ∃ ov cs, e = .returned ov ∧ w'.ownsRow w.heap.size 50 4 ov l.length cs ∧ TS w' (runM (rankOf xs) [] l) cs ∧ Below w.heap.size w w' := by
  obtain ⟨At, ct, rfl⟩ := ht.form
  rw [List.length_map] at *
  obtain ⟨Aa, ca, rfl⟩ := ha.form
  obtain ⟨i0, hi0, hz0, hz1, hz2⟩ := info_parts Try.infoTold2
  have h0 : SInv w 0 [] [] (.slice none 0 0) (w.alloc (.cells #[.slice none 0 0, .slice none 0 0] 42)) :=
    ⟨⟨_, _, Blk.new _ _ _, ⟨NS.nil _, NS.nil _⟩⟩, ⟨[], World.ownsRow_nil _ _ _ _, rfl⟩, (Below.refl _ w).alloc (Nat.le_refl _) _⟩
  have H0 := Lib.hid h0
  have HT := Lib.hid ht
  have HA := Lib.hid ha
  clear h0 ht ha
  go_enter Try.func10, Try.ntmps10
  go_wp2_with fail
  go_loopw [6, 7] (fun v i wr => ∃ k : Nat, k ≤ l.length ∧ i = .int .i64 (k : Nat) ∧ Hid (SInv w k (mapR (rankOf xs) (l.take k) []) (runM (rankOf xs) [] (l.take k)) v wr)) (fun _ i _ => l.length - (intOf i).toNat)
  case atStart => exact ⟨0, Nat.zero_le _, rfl, H0⟩
  case round =>
    obtain ⟨k, hk, rfl, HK⟩ := hrel
    by_cases hlt : k < l.length
    · obtain ⟨b, off, a, rfl, g1, g2, g3, ha5, z0, z1, z2⟩ := HA.out.at_ hlt
      have hbel := HK.out.bel
      have q0 := (hbel.cell (p := ⟨b, off + k * 3, none⟩) g2).trans z0
      have q1 := (hbel.cell (p := ⟨b, off + k * 3 + 1, none⟩) g2).trans z1
      have q2 := (hbel.cell (p := ⟨b, off + k * 3 + 2, none⟩) g2).trans z2
      obtain ⟨kv, vv, hbx, htt⟩ := HK.out.box
      obtain ⟨cs, ho, hts⟩ := HK.out.own
      obtain ⟨A4, c4, rfl⟩ := kd_form ho
      have blt : b < wr.heap.size := Nat.lt_of_lt_of_le g3 hbel.size
      have wlt := hbx.lt
      have c0 := hbx.cell 0
      have c1 := hbx.cell 1
      have hml := mapU_len (r := rankOf xs) (l.take k) []
      rw [List.length_take, List.length_nil] at hml
      have hri := mapU_rises (r := rankOf xs) (l.take k) [] List.Pairwise.nil
      have hsn : mapR (rankOf xs) (l.take (k + 1)) [] = mapS (rankOf xs) a (mapR (rankOf xs) (l.take k) []) := by
        have hgg := (List.getElem?_eq_some_iff.1 ha5).2
        rw [List.take_succ_eq_append_getElem hlt, hgg, mapU_snoc]
      have hsm : runM (rankOf xs) [] (l.take (k + 1)) = runM (rankOf xs) [] (l.take k) ++ [tellT (rankOf xs) a (mapR (rankOf xs) (l.take k) [])] := by
        have hgg := (List.getElem?_eq_some_iff.1 ha5).2
        rw [List.take_succ_eq_append_getElem hlt, hgg, runM_snoc]
      have HSN := Lib.hid (And.intro hsn hsm)
      clear hsn hsm z0 z1 z2 ha5 hts
      generalize runM (rankOf xs) [] (l.take k) = ds at *
      generalize mapR (rankOf xs) (l.take k) [] = m at *
      obtain ⟨Ak, ck, Av, cv, rfl, rfl⟩ := htt.forms
      have HTT := Lib.hid (And.intro htt (And.intro hri hbx))
      have HO := Lib.hid ho
      have hsz := hbel.size
      have HST := Lib.hid (fun (w' : World) (hb : Below wr.heap.size wr w') => step_all xs (.slice At xs.length ct) m _ _ a w' ((HT.out.below (hbel.trans (hb.mono hsz))).mono (hbel.trans (hb.mono hsz)).size) (htt.below hb) hri (by omega) |>.mono (fun _ w'' ⟨K1, l1, c1, K2, c2, N1, n1, d1, N2, n2, d2, e, t1, b1⟩ => (⟨K1, l1, c1, K2, c2, N1, n1, d1, N2, n2, d2, e, t1, b1, hb.trans (b1.mono hb.size)⟩ : ∃ K1 l1 c1 K2 c2 N1 n1 d1 N2 n2 d2, _ = Ending.returned (.tuple #[.agg #[.slice K1 l1 c1, .slice K2 l1 c2], .agg #[.int .i64 (tellT (rankOf xs) a m).val, .bool (tellT (rankOf xs) a m).ok, .slice N1 n1 d1, .slice N2 n2 d2]]) ∧ T2 w'' (.slice K1 l1 c1) (.slice K2 l1 c2) (mapS (rankOf xs) a m) (.slice N1 n1 d1) (.slice N2 n2 d2) (tellT (rankOf xs) a m) ∧ Below w'.heap.size w' w'' ∧ Below wr.heap.size wr w'')))
      clear htt hri hbx ho hml
      generalize mapS (rankOf xs) a m = m' at *
      generalize tellT (rankOf xs) a m = d at *
      obtain ⟨act, key, val⟩ := a
      simp only at q0 q1 q2 HST
      go_upto_region 6 with (fail)
      go_cut [8, 9] (fun s10 s11 wx => ∃ p1 p2, s10 = .pointer (some ⟨p1, 0, none⟩) ∧ s11 = .pointer (some ⟨p2, 0, none⟩) ∧ Hid (SMid w k m' ds d (.slice A4 k c4) p1 p2 wx))
      case first =>
        go_region_with (first
          | (go_at_call 30; refine (HST.out _ (by first | exact Below.refl _ _ | exact (Below.refl _ _).drew | exact (Below.refl _ _).alloc (Nat.le_refl _) _ | exact ((Below.refl _ _).drew).alloc (Nat.le_refl _) _ | exact (((Below.refl _ _).drew).alloc (Nat.le_refl _) _).alloc (by show wr.heap.size ≤ (wr.drew.alloc _).heap.size; simp) _ | exact (((Below.refl _ _)).alloc (Nat.le_refl _) _).alloc (by simp) _)).mono ?_; rintro e w1 ⟨K1, l1, kc1, K2, kc2, N1, tn1, nc1, N2, tn2, nc2, rfl, t1, b1, bw⟩; first
            | (have Z1 : Blk w1 wr.heap.size #[.slice none 0 0, .slice none 0 0] 42 := Blk.below (by exact (Blk.new _ _ _).alloc _) b1 (by first | (simp; done) | (simp; omega))
               have Z2 : Blk w1 (wr.heap.size + 1) #[.int .i64 0, .bool false, .slice none 0 0, .slice none 0 0] 50 := Blk.below (by exact blk_new1' _ _ _ _) b1 (by first | (simp; done) | (simp; omega))
               have y0 := Z1.cell 0
               have yl := Z1.lt
               have y1 := Z1.cell 1
               have yf := Z1.frozen
               have x0 := Z2.cell 0
               have xl := Z2.lt
               have x1 := Z2.cell 1
               have x2 := Z2.cell 2
               have x3 := Z2.cell 3
               have xf := Z2.frozen)
            | (have Z1 : Blk w1 (wr.heap.size + 1) #[.slice none 0 0, .slice none 0 0] 42 := Blk.below (by exact blk_new1' _ _ _ _) b1 (by first | (simp; done) | (simp; omega))
               have Z2 : Blk w1 wr.heap.size #[.int .i64 0, .bool false, .slice none 0 0, .slice none 0 0] 50 := Blk.below (by exact (Blk.new _ _ _).alloc _) b1 (by first | (simp; done) | (simp; omega))
               have y0 := Z1.cell 0
               have yl := Z1.lt
               have y1 := Z1.cell 1
               have yf := Z1.frozen
               have x0 := Z2.cell 0
               have xl := Z2.lt
               have x1 := Z2.cell 1
               have x2 := Z2.cell 2
               have x3 := Z2.cell 3
               have xf := Z2.frozen)
            | (have Z1 : Blk w1 wr.heap.size #[.slice none 0 0, .slice none 0 0] 42 := Blk.below (by exact Blk.new _ _ _) b1 (by first | (simp; done) | (simp; omega))
               have y0 := Z1.cell 0
               have yl := Z1.lt
               have y1 := Z1.cell 1
               have yf := Z1.frozen)
            | (have Z2 : Blk w1 wr.heap.size #[.int .i64 0, .bool false, .slice none 0 0, .slice none 0 0] 50 := Blk.below (by exact Blk.new _ _ _) b1 (by first | (simp; done) | (simp; omega))
               have x0 := Z2.cell 0
               have xl := Z2.lt
               have x1 := Z2.cell 1
               have x2 := Z2.cell 2
               have x3 := Z2.cell 3
               have xf := Z2.frozen)
            | skip))
        all_goals
          go_wp2_with fail
          go_meet
          refine ⟨_, _, rfl, rfl, Lib.hid ?_⟩
          first
            | with_reducible exact sm_1 HK.out bw t1
            | with_reducible exact sm_2 HK.out bw t1
            | with_reducible exact sm_4 HK.out bw t1 (Nat.le_refl _) (Nat.le_succ _) Z1 Z2
            | with_reducible exact sm_4 HK.out bw t1 (Nat.le_succ _) (Nat.le_refl _) Z1 Z2
            | with_reducible exact sm_3 HK.out bw t1 (Nat.le_refl _) Z1
            | with_reducible exact sm_5 HK.out bw t1 (Nat.le_refl _) Z2
      case rest =>
      obtain ⟨p1, p2, rfl, rfl, HM⟩ := hcut
      obtain ⟨kb, vb, hbx⟩ := HM.out.box
      obtain ⟨kn, vn, ka, va, hnx, htd, htn2⟩ := HM.out.next
      have htn := htn2.t
      have hds1 := htn2.ks
      have hds2 := htn2.vs
      obtain ⟨A1, c1, rfl⟩ := hds1.form
      obtain ⟨A2, c2, rfl⟩ := hds2.form
      obtain ⟨cs, ho, hts⟩ := HM.out.own
      have HDS := Lib.hid (And.intro hds1 (And.intro hds2 hts))
      clear htn2 hds1 hds2 hts
      obtain ⟨Kn, ckn, Vn, cvn, rfl, rfl⟩ := htn.forms
      have hne := HM.out.ne
      have b0 := hbx.cell 0
      have b1 := hbx.cell 1
      have bf := hbx.frozen
      have m0 := hnx.cell 0
      have m1 := hnx.cell 1
      have t0 := htd.cell 0
      have t1 := htd.cell 1
      have t2 := htd.cell 2
      have t3 := htd.cell 3
      have x1 : ¬ p1 = w.heap.size := by omega
      have x2 : ¬ w.heap.size = p1 := by omega
      have x3 : ¬ p2 = w.heap.size := fun e => by
        subst e
        unfold Blk at hbx htd
        rw [hbx] at htd
        simp at htd
      have x4 : ¬ w.heap.size = p2 := fun e => x3 e.symm
      have hbl := HM.out.bel
      have HB := Lib.hid (And.intro hbx (And.intro htn ho))
      clear hbx hnx htn ho HO HTT
      have O2 := Lib.hid (kd_set (i := 1) (u := .slice Vn (List.length m') cvn) (HB.out.1.set 0 (.slice Kn (List.length m') ckn)) (kd_set (i := 0) (u := .slice Kn (List.length m') ckn) HB.out.1 HB.out.2.2 (by decide)) (by decide))
      have B2 : Below w.heap.size w ((wc.setCell ⟨w.heap.size, 0, none⟩ (.slice Kn (List.length m') ckn)).setCell ⟨w.heap.size, 1, none⟩ (.slice Vn (List.length m') cvn)) := (hbl.setCell (Nat.le_refl _) _).setCell (Nat.le_refl _) _
      have KP : KeepI wc ((wc.setCell ⟨w.heap.size, 0, none⟩ (.slice Kn (List.length m') ckn)).setCell ⟨w.heap.size, 1, none⟩ (.slice Vn (List.length m') cvn)) := (KeepI.set HB.out.1 (by decide) _).trans (KeepI.set (HB.out.1.set 0 _) (by decide) _)
      have BX : Blk ((wc.setCell ⟨w.heap.size, 0, none⟩ (.slice Kn (List.length m') ckn)).setCell ⟨w.heap.size, 1, none⟩ (.slice Vn (List.length m') cvn)) w.heap.size #[.slice Kn (List.length m') ckn, .slice Vn (List.length m') cvn] 42 := (HB.out.1.set 0 _).set 1 _
      have hsz2 := B2.size
      go_upto_region 8 with (fail)
      have TD : Blk ((wc.setCell ⟨w.heap.size, 0, none⟩ (.slice Kn (List.length m') ckn)).setCell ⟨w.heap.size, 1, none⟩ (.slice Vn (List.length m') cvn)) p2 #[.int .i64 d.val, .bool d.ok, .slice A1 d.keys.length c1, .slice A2 d.vals.length c2] 50 := (htd.far x3).far x3
      have HW := Lib.hid (And.intro (⟨HB.out.2.1.ks.keep KP, HB.out.2.1.vs.keep KP⟩ : TT _ _ _ m') (And.intro BX (And.intro (And.intro (HDS.out.1.keep KP) (And.intro (HDS.out.2.1.keep KP) (HDS.out.2.2.keep KP))) B2)))
      clear KP BX B2 HDS htd t0 t1 t2 t3 HB HM b0 b1 bf m0 m1
      generalize (wc.setCell ⟨w.heap.size, 0, none⟩ (.slice Kn (List.length m') ckn)).setCell ⟨w.heap.size, 1, none⟩ (.slice Vn (List.length m') cvn) = W2 at *
      have t0 := TD.cell 0
      have t1 := TD.cell 1
      have t2 := TD.cell 2
      have t3 := TD.cell 3
      have tl := TD.lt
      clear TD HST HK
      go_wp2_with (at_builtin; go_loud (refine wpList_append_own _ rfl (.tmp 27) (.tmp 29) 25 rfl w.heap.size 50 i0 _ 4 64 Try.underlying25 hi0 hz0 hz1 hz2 rfl (by omega) _ k cs rfl (O2.out.alloc _) ⟨W2.heap.size, 0, none⟩ 1 1 [.int .i64 d.val, .bool d.ok, .slice A1 d.keys.length c1, .slice A2 d.vals.length c2] rfl rfl (kd_news (Blk.new W2 _ _)) (by simp [Value.oneCell']) (by unfold maxLen; omega) (by omega) (by simp; omega) ?_; intro v' w3 hown' hgrow _))
      refine ⟨⟨k + 1, by omega, by go_num, Lib.hid ?_⟩, by simp [intOf]; omega⟩
      have kg : ∀ (T : TypeId) (b : Nat) (cs : Array Value), Blk W2 b cs T → T ≠ 50 → Blk w3 b cs T := fun T b cs hb hT => kd_grown (hb.alloc _) (O2.out.alloc _) hgrow hT
      have kI : KeepI W2 w3 := fun b cs hb => kg _ _ _ hb (by decide)
      rw [HSN.out.1, HSN.out.2]
      exact ⟨⟨_, _, kg _ _ _ HW.out.2.1 (by decide), ⟨HW.out.1.ks.keep kI, HW.out.1.vs.keep kI⟩⟩, ⟨_, hown', TS.snoc (HW.out.2.2.1.1.keep kI) (HW.out.2.2.1.2.1.keep kI) (HW.out.2.2.1.2.2.keep kI)⟩, (HW.out.2.2.2.alloc hsz2 _).grown hgrow (by simp; omega) (fun g hg => (O2.out.lt g hg).1)⟩
    · have : k = l.length := by omega
      subst this
      have h := HK.out
      rw [List.take_length] at h
      obtain ⟨cs, ho, hts⟩ := h.own
      have HO := Lib.hid (And.intro ho (And.intro hts h.bel))
      clear h HK ho hts
      go_wp2_with fail
      go_ret
      exact ⟨_, cs, rfl, HO.out.1, HO.out.2.1, HO.out.2.2⟩
end Go.Proofs.Ytjbelfbfhcmgeaa.Kp
