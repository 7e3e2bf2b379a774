/- impl.btreeDo: the walk. -/
import Derived.Test.YtjbelfbfhcmgeaaBtD
import Derived.Deep.Cut
namespace Go.Proofs.Ytjbelfbfhcmgeaa.Kp
open Go.RowKit Bt

theorem or5 {a b c d e R : Prop} (h : a ∨ b ∨ c ∨ d ∨ e) (h1 : a → R) (h2 : b → R) (h3 : c → R) (h4 : d → R) (h5 : e → R) : R := by
  rcases h with h | h | h | h | h
  · exact h1 h
  · exact h2 h
  · exact h3 h
  · exact h4 h
  · exact h5 h
theorem step0 {r : Int → Int} {key val : Int} {s : Bt.BT} : stepB r ⟨0, key, val⟩ s = (putB r key val s, .none) := rfl
theorem step1 {r : Int → Int} {key val : Int} {s : Bt.BT} : stepB r ⟨1, key, val⟩ s = (remB r key s, .none) := rfl
theorem step2 {r : Int → Int} {key val : Int} {s : Bt.BT} : stepB r ⟨2, key, val⟩ s = (s, ⟨(getE r s.1 s.2 key).1, (getE r s.1 s.2 key).2, [], []⟩) := rfl
theorem step4 {r : Int → Int} {key val : Int} {s : Bt.BT} : stepB r ⟨4, key, val⟩ s = (s, ⟨0, false, lk s.flat, lv s.flat⟩) := rfl
set_option maxRecDepth 100000 in
set_option maxHeartbeats 3200000 in
theorem btreeDo_calls (xs : List Int) (f av : Value) (B tb : Nat) (l : List ActD) (s : BNT) (w : World) (ha : SlA w B av l) (hl : l.length ≤ 7000000000) (H : TB w tb f xs B s 0) (hs : s.er = newB) :
    Calls Try.prog 27 #[.pointer (some ⟨tb, 0, none⟩), av] w fun e w' => ∃ v' cs s' n, e = .returned v' ∧ w'.ownsRow B 50 4 v' (runB (rankOf xs) newB l).2.length cs ∧ TR w' B (runB (rankOf xs) newB l).2 cs ∧ TB w' tb f xs B s' n ∧ s'.er = (runB (rankOf xs) newB l).1 ∧ s'.1 ≤ l.length ∧ s'.er.flat.length ≤ l.length ∧ Below B w w' := by
  obtain ⟨i0, hi0, hz0, hz1, hz2⟩ := info_parts Try.infoTold
  have hh0 : s.1 ≤ 0 := by have : s.er.1 = 0 := by rw [hs]; rfl
                           exact Nat.le_of_eq this
  have hf0 : s.er.flat.length ≤ 0 := by rw [hs]; exact Nat.le_refl 0
  have HInv0 : BInv xs f B tb l w 0 s 0 [] (.slice none 0 0) w := ⟨World.ownsRow_nil _ _ _ _, rfl, H, hs, by omega, by omega, hh0, hf0, Below.refl _ _⟩
  obtain ⟨A, cap, rfl⟩ := ha.form
  have hcap : l.length ≤ 7000000000 := hl
  have HI := Lib.hid HInv0
  have hB2 := HInv0.hB
  clear HInv0 H hs hh0 hf0
  go_enter Try.func27, Try.ntmps27
  go_wp2_with fail
  go_loopw [5, 11] (fun v i wr => ∃ k sk n cs, k ≤ l.length ∧ i = .int .i64 (k : Nat) ∧ Hid (BInv xs f B tb l w k sk n cs v wr)) (fun _ i _ => l.length - (intOf i).toNat)
  case atStart => exact ⟨0, s, 0, [], Nat.zero_le _, rfl, HI⟩
  case round =>
    obtain ⟨k, sk, n, cs, hk, rfl, HK⟩ := hrel
    by_cases hlt : k < l.length
    · obtain ⟨b, off, a, rfl, h1, h3, h4, ha5, z0, z1, z2⟩ := ha.at_ hlt
      obtain ⟨act, key, val⟩ := a
      have q0 := (HK.out.below.cell (p := ⟨b, off + k * 3, none⟩) h3).trans z0
      have q1 := (HK.out.below.cell (p := ⟨b, off + k * 3 + 1, none⟩) h3).trans z1
      have q2 := (HK.out.below.cell (p := ⟨b, off + k * 3 + 2, none⟩) h3).trans z2
      simp only at q0 q1 q2
      have blt : b < wr.heap.size := Nat.lt_of_lt_of_le h4 HK.out.below.size
      have HA := Lib.hid ha5
      clear ha5 z0 z1 z2
      have HW := Lib.hid ((HK.out.alloc (Obj.cells #[.int .i64 act, .int .i64 key, .int .i64 val] 52)).alloc (Obj.cells #[.int .i64 0, .bool false, .slice none 0 0, .slice none 0 0] 50))
      have HX := Lib.hid (Blk.new (wr.alloc (Obj.cells #[.int .i64 act, .int .i64 key, .int .i64 val] 52)) #[.int .i64 0, .bool false, .slice none 0 0, .slice none 0 0] 50)
      have hsz : (wr.alloc (Obj.cells #[.int .i64 act, .int .i64 key, .int .i64 val] 52)).heap.size = wr.heap.size + 1 := by simp
      rw [hsz] at HX
      clear hsz
      have HV := Lib.hid (show u5.ownBlock ≠ some (wr.heap.size + 1) ∧ B ≤ wr.heap.size + 1 from ⟨fun e => by have := (HK.out.own.lt _ e).2; omega, by have := HK.out.below.size; omega⟩)
      have hkb : sk.1 ≤ 7000000000 ∧ (-7000000000 ≤ n ∧ n ≤ 7000000000) ∧ sk.er.flat.length ≤ 7000000000 := by
        have := HK.out.hh; have := HK.out.n1; have := HK.out.n2; have := HK.out.fl
        omega
      have HKB := Lib.hid hkb
      clear hkb
      have dd : act = 0 ∨ act = 1 ∨ act = 2 ∨ act = 4 ∨ ((act == 0) = false ∧ (act == 1) = false ∧ (act == 2) = false ∧ (act == 4) = false) := by
        simp only [beq_eq_false_iff_ne]; omega
      refine or5 dd ?k0 ?k1 ?k2 ?k3 ?k4 <;> (clear dd; intro dd)
      case' k0 =>
        subst dd
        go_wp2_with fail
        generalize hW1 : (wr.alloc (Obj.cells #[.int .i64 0, .int .i64 key, .int .i64 val] 52)).alloc (Obj.cells #[.int .i64 0, .bool false, .slice none 0 0, .slice none 0 0] 50) = W1 at *
        have h := HW.out
        refine (bput_calls xs tb f B sk n key val W1 h.at_ (by have := HKB.out; omega) (by have := HKB.out; omega)).mono ?_
        rintro e w2 ⟨rfl, g1⟩
        obtain ⟨s2, hM⟩ := BMid.of_write (a := ⟨0, key, val⟩) h (by rw [step0]) HX.out (by rw [step0]; exact g1) (.inl rfl)
        have HM := Lib.hid hM
        clear g1 hM
        go_upto_region 15 with (fail)
        have HA' := HA
        clear h HA
        have HA := HA'
        clear HA' HW HX HK HV HKB q0 q1 q2 hW1 blt
        obtain ⟨c0, c1, c2, c3, cl⟩ := HM.out.cells
      case' k1 =>
        subst dd
        go_wp2_with fail
        generalize hW1 : (wr.alloc (Obj.cells #[.int .i64 1, .int .i64 key, .int .i64 val] 52)).alloc (Obj.cells #[.int .i64 0, .bool false, .slice none 0 0, .slice none 0 0] 50) = W1 at *
        have h := HW.out
        refine (brem_calls xs tb f B sk n key W1 h.at_ (by have := HKB.out; omega) (by have := HKB.out; omega)).mono ?_
        rintro e w2 ⟨rfl, n', hn', g1⟩
        obtain ⟨s2, hM⟩ := BMid.of_write (a := ⟨1, key, val⟩) h (by rw [step1]) HX.out (by rw [step1]; exact g1) (.inr hn')
        have HM := Lib.hid hM
        clear g1 hM hn'
        go_upto_region 15 with (fail)
        have HA' := HA
        clear h HA
        have HA := HA'
        clear HA' HW HX HK HV HKB q0 q1 q2 hW1 blt
        obtain ⟨c0, c1, c2, c3, cl⟩ := HM.out.cells
      case' k2 =>
        subst dd
        go_wp2_with fail
        generalize hW1 : (wr.alloc (Obj.cells #[.int .i64 2, .int .i64 key, .int .i64 val] 52)).alloc (Obj.cells #[.int .i64 0, .bool false, .slice none 0 0, .slice none 0 0] 50) = W1 at *
        have h := HW.out
        refine (bget_calls xs tb f B sk n key W1 h.at_ (by have := HKB.out; omega)).mono ?_
        rintro e w1 ⟨rfl, hb1⟩
        have X1 := HX.out.below hb1 HX.out.lt
        have y0 := X1.cell 0
        have y1 := X1.cell 1
        have yf := X1.frozen
        simp only [List.getElem?_toArray, List.getElem?_cons_succ, List.getElem?_cons_zero] at y0 y1
        obtain ⟨q, hq⟩ : ∃ q, q = getE (rankOf xs) sk.1 sk.er.2 key := ⟨_, rfl⟩
        rw [← hq]
        have B2 : Blk ((w1.setCell ⟨wr.heap.size + 1, 0, none⟩ (.int .i64 q.1)).setCell ⟨wr.heap.size + 1, 1, none⟩ (.bool q.2)) (wr.heap.size + 1) #[.int .i64 q.1, .bool q.2, .slice none 0 0, .slice none 0 0] 50 := (X1.set 0 _).set 1 _
        have F2 : Fr [wr.heap.size + 1] W1 ((w1.setCell ⟨wr.heap.size + 1, 0, none⟩ (.int .i64 q.1)).setCell ⟨wr.heap.size + 1, 1, none⟩ (.bool q.2)) := (Fr.of_below hb1).comp ((Fr.setCell _ _ 0 _ (by simp)).comp (Fr.setCell _ _ 1 _ (by simp)))
        have HM := Lib.hid (BMid.of_fr (a := ⟨2, key, val⟩) (d := ⟨q.1, q.2, [], []⟩) h rfl (by rw [hq]; rfl) HX.out F2 HV.out.1 HV.out.2 (World.ownsRow_nil _ _ _ _) (World.ownsRow_nil _ _ _ _) B2)
        clear B2 F2 hq hb1 X1
        obtain ⟨qv, qb⟩ := q
        go_upto_region 15 with (fail)
        generalize ((w1.setCell ⟨wr.heap.size + 1, 0, none⟩ (.int .i64 qv)).setCell ⟨wr.heap.size + 1, 1, none⟩ (.bool qb)) = w2 at *
        clear y0 y1 yf
        have HA' := HA
        clear h HA
        have HA := HA'
        clear HA' HW HX HK HV HKB q0 q1 q2 hW1 blt
        obtain ⟨c0, c1, c2, c3, cl⟩ := HM.out.cells
      case' k3 =>
        subst dd
        go_wp2_with fail
        generalize hW1 : (wr.alloc (Obj.cells #[.int .i64 4, .int .i64 key, .int .i64 val] 52)).alloc (Obj.cells #[.int .i64 0, .bool false, .slice none 0 0, .slice none 0 0] 50) = W1 at *
        have h := HW.out
        have tx : TellX W1 W1.heap.size (wr.heap.size + 1) 0 false [] [] := ⟨none, 0, none, 0, HX.out, World.ownsRow_nil _ _ _ _, World.ownsRow_nil _ _ _ _, HX.out.lt, Nat.le_refl _, .inl rfl⟩
        refine (beach_calls xs tb f B W1.heap.size (wr.heap.size + 1) 0 false sk n [] [] W1 h.at_ (by have := HKB.out; omega) (fun x hx => ⟨h.at_.inn.lt x hx, fun e => by
            rw [List.mem_singleton.1 e] at hx
            obtain ⟨cs, hc⟩ := h.at_.inn.type hx
            exact absurd (Blk.ty hc HX.out) (by decide)⟩) tx (by have := HKB.out; simp; omega) (by have := HKB.out; simp; omega)).mono ?_
        rintro e w2 ⟨rfl, ⟨ka, kc, va, vc, g1⟩, g2⟩
        have hBW := h.hB
        have HM := Lib.hid (BMid.of_fr (a := ⟨4, key, val⟩) (d := ⟨0, false, lk sk.er.flat, lv sk.er.flat⟩) h rfl rfl HX.out ⟨g2.os, g2.tape, g2.output, g2.size, g2.block⟩ HV.out.1 HV.out.2 (own_weaken g1.keys hBW) (own_weaken g1.vals hBW) g1.blk)
        clear g1 g2 tx
        go_upto_region 15 with (fail)
        have HA' := HA
        clear h HA
        have HA := HA'
        clear HA' HW HX HK HV HKB q0 q1 q2 hW1 blt
        obtain ⟨c0, c1, c2, c3, cl⟩ := HM.out.cells
      case' k4 =>
        obtain ⟨e0, e1, e2, e4⟩ := dd
        go_upto_region 15 with (fail)
        have h := HW.out
        have HM := Lib.hid (BMid.of_fr (a := ⟨act, key, val⟩) (d := .none) h (by unfold stepB; simp_all) (by unfold stepB; simp_all) HX.out (Fr.refl _ _) HV.out.1 HV.out.2 (World.ownsRow_nil _ _ _ _) (World.ownsRow_nil _ _ _ _) HX.out)
        clear e0 e1 e2 e4
        generalize hW1 : (wr.alloc (Obj.cells #[.int .i64 act, .int .i64 key, .int .i64 val] 52)).alloc (Obj.cells #[.int .i64 0, .bool false, .slice none 0 0, .slice none 0 0] 50) = w2 at *
        have HA' := HA
        clear h HA
        have HA := HA'
        clear HA' HW HX HK HV HKB q0 q1 q2 hW1 blt
        obtain ⟨c0, c1, c2, c3, cl⟩ := HM.out.cells
      all_goals
        go_wp2_with (at_builtin; refine wpList_append_own _ rfl (.tmp 47) (.tmp 49) 25 rfl B 50 i0 _ 4 64 Try.underlying25 hi0 hz0 hz1 hz2 rfl (by omega) u5 k cs rfl (HM.out.own.alloc _) ⟨w2.heap.size, 0, none⟩ 1 1 _ rfl rfl (news_blk (Blk.new w2 _ _)) (by simp [Value.oneCell']) (by unfold maxLen; omega) (by omega) (by have := HM.out.below.size; simp; omega) ?_; intro v' w3 hown' hgrow _)
        exact ⟨⟨k + 1, _, _, _, by omega, by go_num, Lib.hid (HM.out.next HA.out hown' hgrow)⟩, by simp [intOf]; omega⟩
    · have : k = l.length := by omega
      subst this
      go_wp2_with fail
      go_ret
      have h := HK.out
      exact ⟨u5, cs, sk, n, rfl, by rw [runB_len]; exact h.own, by have := h.tr; rwa [List.take_length] at this, h.at_, by have := h.er; rwa [List.take_length] at this, h.hh, h.fl, h.below⟩
theorem btreeRun_calls (xs : List Int) (ov av : Value) (l : List ActD) (w : World) (ho : SlR w w.heap.size ov (xs.map i64v)) (ha : SlA w w.heap.size av l) (hl : l.length ≤ 7000000000) :
    Calls Try.prog 9 #[ov, av] w fun e w' => ∃ v', e = .returned v' ∧ Tolds w' w.heap.size v' (runB (rankOf xs) newB l).2 ∧ Below w.heap.size w w' := by
  have hs2 := ha.form
  obtain ⟨A, c, rfl⟩ := ho.form
  rw [List.length_map] at *
  obtain ⟨A2, c2, rfl⟩ := hs2
  have HO := Lib.hid ho
  have HA := Lib.hid ha
  clear ho ha
  go_enter Try.func9, Try.ntmps9
  go_wp2_with fail
  refine (lessMake_calls xs _ w HO.out).mono ?_
  rintro e w1 ⟨f, rfl, hf, hb1⟩
  obtain ⟨g, hg⟩ : ∃ fn fi ca, f = .func fn fi ca := by obtain ⟨_, _, rfl, _⟩ := hf; exact ⟨_, _, _, rfl⟩
  obtain ⟨fi, ca, rfl⟩ := hg
  have HF := Lib.hid hf
  clear hf
  go_wp2_with fail
  refine (bnew_calls xs _ w1.heap.size w1 HF.out (Nat.le_refl _)).mono ?_
  rintro e w2 ⟨tb, s, rfl, H, hs, hb2⟩
  have HT := Lib.hid (And.intro H hs)
  clear H hs
  go_wp2_with fail
  have hle : w.heap.size ≤ w1.heap.size := hb1.size
  refine (btreeDo_calls xs _ _ w1.heap.size tb l s w2 (((HA.out.below hb1).mono hle).below hb2) hl HT.out.1 HT.out.2).mono ?_
  rintro e w3 ⟨v', cs, s', n', rfl, g1, g2, _, _, _, _, g3⟩
  go_wp2
  go_ret
  exact ⟨v', rfl, ⟨cs, own_weaken g1 hle, g2.weaken hle⟩, (hb1.trans (hb2.mono hle)).trans (g3.mono hle)⟩
end Go.Proofs.Ytjbelfbfhcmgeaa.Kp
