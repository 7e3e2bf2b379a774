/- scripts on tries in memory: impl.trieDo, impl.TrieRun. -/
import Derived.Test.YtlpcddmcddenfaaTriX
import Derived.Deep.CutBlock
namespace Go.Proofs.Ytlpcddmcddenfaa.Kp
open Go.RowKit Tri

theorem or9 {a b c d e f g h i R : Prop} (hh : a ∨ b ∨ c ∨ d ∨ e ∨ f ∨ g ∨ h ∨ i) (h1 : a → R) (h2 : b → R) (h3 : c → R) (h4 : d → R) (h5 : e → R) (h6 : f → R) (h7 : g → R) (h8 : h → R) (h9 : i → R) : R := by
  rcases hh with h | h | h | h | h | h | h | h | h
  · exact h1 h
  · exact h2 h
  · exact h3 h
  · exact h4 h
  · exact h5 h
  · exact h6 h
  · exact h7 h
  · exact h8 h
  · exact h9 h
theorem one_str (x : Txt) : ([str x]).length = 1 := rfl
theorem flat_str (l : List Txt) : l.flatMap (fun x => [str x]) = l.map str := by induction l <;> simp_all
theorem TT.root_ {w : World} {B tb : Nat} {s : St} {t : TN} (h : TT w B tb s t) : B ≤ w.heap.size := by have := h.lo.1; have := h.blk.lt; omega
theorem kwp_len (t : Tr) (h : t.Wf) (k : Txt) : (kwp t k).length ≤ t.keys.length := by rw [kwp_is k h]; exact List.length_filter_le _ _
theorem TM.append {B tb k mb : Nat} {ds : List SaysD} {cs : List Value} {v : Value} {w W W' : World} {s : St} {t : TN} {a : WordD} {d : SaysD} {kv : Value} (h : TM B tb k ds cs v w s t a mb d kv W) {qv : Value} {ks : List Txt} (o3 : W'.ownsRow B 9 1 qv (0 + ks.length) ([] ++ ks.flatMap (fun x => [str x]))) (g3 : W.grownBy W' (Value.slice none 0 0).ownBlock) :
    ∃ A c, qv = .slice A ks.length c ∧ TM B tb k ds cs v w s t a mb d kv W' ∧ NX 9 str W' (.slice A ks.length c) ks := by
  have hf3 : Fr [] W W' := ⟨g3.os, g3.tape, g3.output, g3.size, fun k hk _ => g3.block k hk (by simp [Value.ownBlock])⟩
  have h3 := h.below (hf3.below (fun _ h => by cases h) (Nat.le_refl _))
  rw [flat_str, List.nil_append, Nat.zero_add] at o3
  have hn3 := own_NX (f := str) rfl o3
  obtain ⟨A3', c3', rfl⟩ := hn3.form
  exact ⟨A3', c3', rfl, h3, hn3⟩
set_option maxRecDepth 100000 in
set_option maxHeartbeats 6400000 in
theorem trieDo_calls (B tb : Nat) (lv : Value) (l : List WordD) (w : World) (hl : SlC 3 wordCell w B lv l) (hB : B ≤ w.heap.size) (ht : TT w B tb new0 .nil) (hln : l.length ≤ 4294967296) (hp : ∀ a ∈ l, a.key.length ≤ 2147483647) :
    Calls Try.prog 20 #[.pointer (some ⟨tb, 0, none⟩), lv] w fun e w' => ∃ v', e = .returned v' ∧ Told w' B v' (runW new0 l) ∧ Below B w w' := by
  obtain ⟨i0, hi0, hz0, hz1, hz2⟩ := info_parts infoSays
  obtain ⟨i9, hi9, hz9, hs9, hy9⟩ := info_parts infoS
  obtain ⟨A3, c3, rfl⟩ := hl.form
  have HL := Lib.hid hl
  have HP := Lib.hid hp
  have HI := Lib.hid (show OW B 0 (runW new0 (l.take 0)) [] (.slice none 0 0) w w ∧ ∃ t, TT w B tb (runS new0 (l.take 0)) t from ⟨OW.start _ _, .nil, ht⟩)
  have HF := Lib.hid (fit_run l hp)
  have HW := Lib.hid (fun k => runS_wf (l.take k) (s := new0) trivial)
  clear hl hp ht
  go_enter Try.func20, Try.ntmps20
  go_wp2_with fail
  go_loopw [5, 11] (fun v i wr => ∃ (k : Nat) (cs : List Value), k ≤ l.length ∧ i = .int .i64 (k : Nat) ∧ Hid (OW B k (runW new0 (l.take k)) cs v w wr ∧ ∃ t, TT wr B tb (runS new0 (l.take k)) t)) (fun _ i _ => l.length - (intOf i).toNat)
  case atStart => exact ⟨0, [], Nat.zero_le _, rfl, HI⟩
  case round =>
    obtain ⟨k, cs, hk, rfl, HK⟩ := hrel
    by_cases hlt : k < l.length
    · obtain ⟨b, off, a, rfl, g1, g3, g4, g5, z⟩ := HL.out.at_ hlt
      have hpa := HP.out a (List.mem_of_getElem? g5)
      obtain ⟨ho, t, ht⟩ := HK.out
      have hTop := TM.start ho ht.root_ ht a
      have hst := runS_take l new0 g5
      have hwt := runW_take l new0 g5
      have hfit := HF.out k
      have hwf := HW.out k
      obtain ⟨s, hs⟩ : ∃ s, s = runS new0 (l.take k) := ⟨_, rfl⟩
      rw [← hs] at hTop hst hwt hfit hwf
      obtain ⟨act, key, val⟩ := a
      have hw : Below B w wr := ho.below
      have q0 := (hw.cell (p := ⟨b, off + k * 3, none⟩) g3).trans (z 0 _ rfl)
      have q1 := (hw.cell (p := ⟨b, off + k * 3 + 1, none⟩) g3).trans (z 1 _ rfl)
      have q2 := (hw.cell (p := ⟨b, off + k * 3 + 2, none⟩) g3).trans (z 2 _ rfl)
      have blt : b < wr.heap.size := Nat.lt_of_lt_of_le g4 hw.size
      have HPA := Lib.hid (And.intro hpa (And.intro hfit hwf))
      have HST := Lib.hid (And.intro hst hwt)
      have HT := Lib.hid hTop
      clear g5 z hw hpa hTop hst hwt hfit hwf hs ho ht
      simp only at q0 q1 q2
      go_upto_block 2 with (fail)
      generalize hW : (wr.alloc (Obj.cells #[.int .i64 act, str key, .int .i64 val] 28)).alloc (Obj.cells #[.int .i64 0, .bool false, .string ⟨#[]⟩, .slice none 0 0] 31) = W at HT ⊢
      clear hW q0 q1 q2 blt
      generalize hmb : wr.heap.size = mb at HT ⊢
      clear hmb HK
      go_cut [] from 15 to 74 (fun wx => ∃ t' kv, Hid (TM B tb k (runW new0 (l.take k)) cs u5 w (nextW ⟨act, key, val⟩ s) t' ⟨act, key, val⟩ mb (tellW ⟨act, key, val⟩ s) kv wx))
      case first =>
        have m0 : W.cell? ⟨mb, 0, none⟩ = some (.int .i64 act) := HT.out.wd.cell 0
        have m1 : W.cell? ⟨mb, 1, none⟩ = some (str key) := HT.out.wd.cell 1
        have m2 : W.cell? ⟨mb, 2, none⟩ = some (.int .i64 val) := HT.out.wd.cell 2
        obtain ⟨hpk, ⟨hf1, hf2, hf3, hf4⟩, hwf⟩ := HPA.out
        simp only at hpk
        have dd : act = 0 ∨ act = 1 ∨ act = 2 ∨ act = 3 ∨ act = 4 ∨ act = 5 ∨ act = 6 ∨ act = 7 ∨ ((act == 0) = false ∧ (act == 1) = false ∧ (act == 2) = false ∧ (act == 3) = false ∧ (act == 4) = false ∧ (act == 5) = false ∧ (act == 6) = false ∧ (act == 7) = false) := by
          simp only [beq_eq_false_iff_ne]; omega
        refine or9 dd ?k0 ?k1 ?k2 ?k3 ?k4 ?k5 ?k6 ?k7 ?k8 <;> (clear dd; intro dd)
        case k0 =>
          subst dd
          have HC := Lib.hid (Put_calls W B tb s t key val HT.out.tt HT.out.tt.root_ hpk (by omega))
          clear hpk hf1 hf2 hf3 hf4 hwf
          go_wp2_with fail
          refine HC.out.mono ?_
          rintro e w2 ⟨rfl, t', hs⟩
          have HM := Lib.hid (HT.out.step hs)
          clear hs
          go_wp2_with fail
          go_meet
          exact ⟨t', _, HM⟩
        case k1 =>
          subst dd
          have HC := Lib.hid (Remove_calls W B tb s t key HT.out.tt HT.out.tt.root_ hpk (by omega))
          clear hpk hf1 hf2 hf3 hf4 hwf
          go_wp2_with fail
          refine HC.out.mono ?_
          rintro e w2 ⟨rfl, t', hs⟩
          have HM := Lib.hid (HT.out.step hs)
          clear hs
          go_wp2_with fail
          go_meet
          exact ⟨t', _, HM⟩
        case k2 =>
          subst dd
          have HC := Lib.hid (Get_calls W B tb s t key HT.out.tt hpk)
          have x0 : W.cell? ⟨mb + 1, 0, none⟩ = some (.int .i64 0) := HT.out.xb.cell 0
          have x1 : W.cell? ⟨mb + 1, 1, none⟩ = some (.bool false) := HT.out.xb.cell 1
          have fx := HT.out.xb.frozen
          have HM := Lib.hid (HT.out.setx (d' := tellW ⟨2, key, val⟩ s) (kv' := .slice none 0 0) ((Fr.setCell W (mb + 1) 0 (.int .i64 (getW key s).1) (by simp)).comp (Fr.setCell _ (mb + 1) 1 (.bool (getW key s).2) (by simp))) ((HT.out.xb.set 0 _).set 1 _) rfl (NX.nil _))
          clear hpk hf1 hf2 hf3 hf4 hwf
          go_wp2_with fail
          refine HC.out.mono ?_
          rintro e w2 ⟨rfl, rfl⟩
          go_wp2_with fail
          go_meet
          exact ⟨_, _, HM⟩
        case k3 =>
          subst dd
          have HC := Lib.hid (Contains_calls W B tb s t key HT.out.tt hpk)
          have HD := Lib.hid (fun n => HT.out.below (Below.drewN W n))
          clear hpk hf1 hf2 hf3 hf4 hwf
          go_wp2_with fail
          refine HC.out.mono ?_
          rintro e w2 ⟨rfl, n1, rfl⟩
          have hh := HD.out n1
          have x1 : (W.drewN n1).cell? ⟨mb + 1, 1, none⟩ = some (.bool false) := hh.xb.cell 1
          have fx := hh.xb.frozen
          have HM := Lib.hid (hh.setx (d' := tellW ⟨3, key, val⟩ s) (kv' := .slice none 0 0) (Fr.setCell _ (mb + 1) 1 (.bool (s.t.look key).isSome) (by simp)) (hh.xb.set 1 _) rfl (NX.nil _))
          clear hh
          generalize W.drewN n1 = Wd at *
          go_wp2_with fail
          go_meet
          exact ⟨_, _, HM⟩
        case k4 =>
          subst dd
          have HLN := Lib.hid (show s.t.keys.length ≤ 4294967296 by rw [keys_cnt]; omega)
          have HC := Lib.hid (Keys_calls W B tb s t HT.out.tt (by omega) HLN.out)
          clear hpk hf1 hf2 hf3 hf4 hwf
          go_wp2_with fail
          refine HC.out.mono ?_
          rintro e w2 ⟨q, rfl, hq, hb⟩
          have h2 := HT.out.below hb
          have HNX := Lib.hid (own_NX (f := str) rfl hq)
          obtain ⟨Aq, cq, rfl⟩ := HNX.out.form
          have H2 := Lib.hid (And.intro h2 hq)
          have hln2 : (s.t.keys).length ≤ 4294967296 := HLN.out
          clear h2 hq hb
          go_wp2_with (at_builtin; refine wpList_append_C (s := 1) (cells := fun x => [str x]) (fun x => one_str x) _ rfl (.const (.slice none 0 0)) (.tmp 52) 29 rfl B 9 i9 _ 16 Try.underlying29 hi9 hz9 hs9 hy9 rfl (by omega) (.slice none 0 0) 0 [] (by rfl) (World.ownsRow_nil _ _ _ _) (.slice Aq (s.t.keys).length cq) (s.t.keys) (by rfl) (by with_reducible exact HNX.out.sl) (by with_reducible exact HNX.out.hnone) (fun x u hu => by rw [List.mem_singleton.1 hu]; rfl) (by unfold maxLen; omega) (by omega) (by have := H2.out.1.tt.root_; exact this) ?_; intro qv w3 o3 g3; obtain ⟨A3', c3', rfl, h3, hn3⟩ := TM.append H2.out.1 o3 g3; have x3 : w3.cell? ⟨mb + 1, 3, none⟩ = some (.slice none 0 0) := h3.xb.cell 3; have fx := h3.xb.frozen; have HM := Lib.hid (And.intro h3 hn3); clear h3 hn3 o3 g3)
          have HM2 := Lib.hid (HM.out.1.setx (d' := tellW ⟨4, key, val⟩ s) (kv' := .slice A3' (s.t.keys).length c3') (Fr.setCell w3 (mb + 1) 3 (.slice A3' (s.t.keys).length c3') (by simp)) (HM.out.1.xb.set 3 _) rfl HM.out.2)
          go_meet
          exact ⟨_, _, HM2⟩
        case k5 =>
          subst dd
          have hln0 : s.t.keys.length ≤ 4294967296 := by rw [keys_cnt]; omega
          have HLN := Lib.hid (Nat.le_trans (kwp_len s.t hwf key) hln0)
          have HC := Lib.hid (Prefix_calls W B tb s t key HT.out.tt hpk (by omega) hln0 HLN.out)
          clear hpk hf1 hf2 hf3 hf4 hwf hln0
          go_wp2_with fail
          refine HC.out.mono ?_
          rintro e w2 ⟨q, rfl, hq, hb⟩
          have h2 := HT.out.below hb
          have HNX := Lib.hid (own_NX (f := str) rfl hq)
          obtain ⟨Aq, cq, rfl⟩ := HNX.out.form
          have H2 := Lib.hid (And.intro h2 hq)
          have hln2 : (kwp s.t key).length ≤ 4294967296 := HLN.out
          clear h2 hq hb
          go_wp2_with (at_builtin; refine wpList_append_C (s := 1) (cells := fun x => [str x]) (fun x => one_str x) _ rfl (.const (.slice none 0 0)) (.tmp 60) 29 rfl B 9 i9 _ 16 Try.underlying29 hi9 hz9 hs9 hy9 rfl (by omega) (.slice none 0 0) 0 [] (by rfl) (World.ownsRow_nil _ _ _ _) (.slice Aq (kwp s.t key).length cq) (kwp s.t key) (by rfl) (by with_reducible exact HNX.out.sl) (by with_reducible exact HNX.out.hnone) (fun x u hu => by rw [List.mem_singleton.1 hu]; rfl) (by unfold maxLen; omega) (by omega) (by have := H2.out.1.tt.root_; exact this) ?_; intro qv w3 o3 g3; obtain ⟨A3', c3', rfl, h3, hn3⟩ := TM.append H2.out.1 o3 g3; have x3 : w3.cell? ⟨mb + 1, 3, none⟩ = some (.slice none 0 0) := h3.xb.cell 3; have fx := h3.xb.frozen; have HM := Lib.hid (And.intro h3 hn3); clear h3 hn3 o3 g3)
          have HM2 := Lib.hid (HM.out.1.setx (d' := tellW ⟨5, key, val⟩ s) (kv' := .slice A3' (kwp s.t key).length c3') (Fr.setCell w3 (mb + 1) 3 (.slice A3' (kwp s.t key).length c3') (by simp)) (HM.out.1.xb.set 3 _) rfl HM.out.2)
          go_meet
          exact ⟨_, _, HM2⟩
        case k6 =>
          subst dd
          have HC := Lib.hid (Longest_calls W B tb s t key HT.out.tt hpk)
          have x2 : W.cell? ⟨mb + 1, 2, none⟩ = some (str []) := HT.out.xb.cell 2
          have fx := HT.out.xb.frozen
          have HM := Lib.hid (HT.out.setx (d' := tellW ⟨6, key, val⟩ s) (kv' := .slice none 0 0) (Fr.setCell W (mb + 1) 2 (str (key.take (s.t.long key))) (by simp)) (HT.out.xb.set 2 _) rfl (NX.nil _))
          clear hpk hf1 hf2 hf3 hf4 hwf
          go_wp2_with fail
          refine HC.out.mono ?_
          rintro e w2 ⟨rfl, rfl⟩
          go_wp2_with fail
          go_meet
          exact ⟨_, _, HM⟩
        case k7 =>
          subst dd
          have HC := Lib.hid (Size_calls W B tb s t HT.out.tt)
          have x0 : W.cell? ⟨mb + 1, 0, none⟩ = some (.int .i64 0) := HT.out.xb.cell 0
          have fx := HT.out.xb.frozen
          have HM := Lib.hid (HT.out.setx (d' := tellW ⟨7, key, val⟩ s) (kv' := .slice none 0 0) (Fr.setCell W (mb + 1) 0 (.int .i64 s.n) (by simp)) (HT.out.xb.set 0 _) rfl (NX.nil _))
          clear hpk hf1 hf2 hf3 hf4 hwf
          go_wp2_with fail
          refine HC.out.mono ?_
          rintro e w2 ⟨rfl, rfl⟩
          go_wp2_with fail
          go_meet
          exact ⟨_, _, HM⟩
        case k8 =>
          obtain ⟨d0, d1, d2, d3, d4, d5, d6, d7⟩ := dd
          have HM : TM B tb k (runW new0 (l.take k)) cs u5 w (nextW ⟨act, key, val⟩ s) t ⟨act, key, val⟩ mb (tellW ⟨act, key, val⟩ s) (.slice none 0 0) W := by
            have n0 : ¬ act = 0 := by simpa using d0
            have n1 : ¬ act = 1 := by simpa using d1
            have n2 : ¬ act = 2 := by simpa using d2
            have n3 : ¬ act = 3 := by simpa using d3
            have n4 : ¬ act = 4 := by simpa using d4
            have n5 : ¬ act = 5 := by simpa using d5
            have n6 : ¬ act = 6 := by simpa using d6
            have n7 : ¬ act = 7 := by simpa using d7
            have e1 : nextW ⟨act, key, val⟩ s = s := by unfold nextW; rw [if_neg n0, if_neg n1]
            have e2 : tellW ⟨act, key, val⟩ s = says0 := by unfold tellW; rw [if_neg n2, if_neg n3, if_neg n4, if_neg n5, if_neg n6, if_neg n7]
            rw [e1, e2]; exact HT.out
          have HM := Lib.hid HM
          clear hpk hf1 hf2 hf3 hf4 hwf
          go_wp2_with fail
          go_meet
          exact ⟨_, _, HM⟩
      case rest =>
        obtain ⟨t', kv, HM⟩ := hcut
        have x0 : wc.cell? ⟨mb + 1, 0, none⟩ = some (.int .i64 (tellW ⟨act, key, val⟩ s).val) := HM.out.xb.cell 0
        have x1 : wc.cell? ⟨mb + 1, 1, none⟩ = some (.bool (tellW ⟨act, key, val⟩ s).ok) := HM.out.xb.cell 1
        have x2 : wc.cell? ⟨mb + 1, 2, none⟩ = some (str (tellW ⟨act, key, val⟩ s).key) := HM.out.xb.cell 2
        have x3 : wc.cell? ⟨mb + 1, 3, none⟩ = some kv := HM.out.xb.cell 3
        obtain ⟨d, hd⟩ : ∃ d, d = tellW ⟨act, key, val⟩ s := ⟨_, rfl⟩
        obtain ⟨s', hs'⟩ : ∃ s', s' = nextW ⟨act, key, val⟩ s := ⟨_, rfl⟩
        have HS := HST.out
        rw [← hd, ← hs'] at HS
        rw [← hd] at x0 x1 x2
        rw [← hd, ← hs'] at HM
        have HSS := Lib.hid HS
        obtain ⟨kA, kc, hkv⟩ := HM.out.keys.form
        subst hkv
        have hbc := HM.out.tt.root_
        clear HS hd hs' HST HT HPA
        go_wp2_with (at_builtin; refine wpList_append_own _ rfl (.tmp 75) (.tmp 77) 24 rfl B 31 i0 _ 4 56 Try.underlying24 hi0 hz0 hz1 hz2 rfl (by omega) u5 k cs rfl (HM.out.out.own.alloc _) ⟨wc.heap.size, 0, none⟩ 1 1 [.int .i64 d.val, .bool d.ok, str d.key, .slice kA d.keys.length kc] rfl rfl (kd_news (Blk.new wc _ _)) (by simp [Value.oneCell']) (by unfold maxLen; omega) (by omega) (by simp; omega) ?_; intro v' w3 o3 g3 _)
        obtain ⟨n1, n2⟩ := HM.out.next o3 g3
        rw [← HSS.out.2] at n1
        rw [← HSS.out.1] at n2
        exact ⟨⟨k + 1, _, by omega, by go_num, ⟨n1, t', n2⟩⟩, by simp [intOf]; omega⟩
    · have : k = l.length := by omega
      subst this
      obtain ⟨ho, t, ht⟩ := HK.out
      rw [List.take_length] at ho
      have HO := Lib.hid ho
      clear ho ht HK
      go_wp2_with fail
      go_ret
      exact ⟨u5, rfl, ⟨cs, by rw [runW_len]; exact HO.out.own, HO.out.tr⟩, HO.out.below⟩
theorem trieRun_calls (lv : Value) (l : List WordD) (w : World) (hl : SlC 3 wordCell w w.heap.size lv l) (hln : l.length ≤ 4294967296) (hp : ∀ a ∈ l, a.key.length ≤ 2147483647) :
    Calls Try.prog 9 #[lv] w fun e w' => ∃ v', e = .returned v' ∧ Told w' w.heap.size v' (runW new0 l) ∧ Below w.heap.size w w' := by
  obtain ⟨A3, c3, rfl⟩ := hl.form
  have HN := Lib.hid (New_calls w)
  have HD := Lib.hid (fun (w1 : World) (hT : TT w1 w.heap.size w.heap.size new0 .nil) (hb : Below w.heap.size w w1) => trieDo_calls w.heap.size w.heap.size _ l w1 (hl.below hb) hb.size hT hln hp)
  clear hl hp
  go_enter Try.func9, Try.ntmps9
  go_wp2_with fail
  refine HN.out.mono ?_
  rintro e w1 ⟨rfl, h1, h2⟩
  have H1 := Lib.hid (HD.out w1 h1 h2)
  have H2 := Lib.hid h2
  clear h1 h2
  go_wp2_with fail
  refine H1.out.mono ?_
  rintro e w2 ⟨v', rfl, h3, h4⟩
  have H3 := Lib.hid (And.intro h3 h4)
  clear h3 h4
  go_wp2_with fail
  go_ret
  exact ⟨v', rfl, H3.out.1, H2.out.trans H3.out.2⟩
end Go.Proofs.Ytlpcddmcddenfaa.Kp
