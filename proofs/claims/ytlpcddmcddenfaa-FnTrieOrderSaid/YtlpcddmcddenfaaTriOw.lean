/- laws.FnTrieOrder: the walk. -/
import Derived.Test.YtlpcddmcddenfaaTriO0
namespace Go.Proofs.Ytlpcddmcddenfaa.Kp
open Go.RowKit Tri

theorem tell_len {s : St} (h : s.Wf) (w : WordD) : (tellW w s).keys.length ≤ s.t.keys.length := by
  unfold tellW
  repeat' split
  all_goals first | exact Nat.le_refl _ | exact kwp_len _ h _ | exact Nat.zero_le _
theorem own_nil {w : World} {B : Nat} {e : TypeId} {s n : Nat} {v : Value} {xs : List Value} (h : w.ownsRow B e s v n xs) : ∀ m c, v = .slice none m c → m = 0 ∧ c = 0 := by
  intro m c hv
  rcases h.2 with ⟨e1, h0⟩ | ⟨g, cap, cur, e1, _⟩
  · rw [hv] at e1; cases e1; exact ⟨rfl, rfl⟩
  · rw [hv] at e1; cases e1
theorem fitW_puts {ks : List Txt} (h : ∀ x ∈ ks, x.length ≤ 2147483647) (n : Nat) (hn : n ≤ ks.length) : fitW (putsN ks n) := fun a ha => by
  obtain ⟨i, hi, rfl, _⟩ := putsN_mem ha
  exact h _ (List.mem_of_getElem? (getD_at (by omega)))
theorem slR_toI {w : World} {B : Nat} {v : Value} {xs : List Int} (h : SlR w B v (xs.map i64v)) : SlI w B v xs := by
  obtain ⟨A, cap, e, h⟩ := h.is
  rw [List.length_map] at e h
  refine ⟨⟨A, cap, e, ?_⟩⟩
  rcases h with h | ⟨b, off, e1, h1, h2, h3, h4, h5⟩
  · exact .inl (List.map_eq_nil_iff.1 h)
  · refine .inr ⟨b, off, e1, h1, h3, h4, fun i a hi j u hj => ?_⟩
    have hil := (List.getElem?_eq_some_iff.1 hi).1
    cases j with
    | zero =>
      simp only [int1, List.getElem?_cons_zero, Option.some.injEq] at hj
      have := h5 i hil
      rw [List.getElem?_map, hi] at this
      rw [Nat.mul_one, Nat.add_zero, this, ← hj]; rfl
    | succ j => simp [int1] at hj
/-- what has been put so far. -/
structure PH (B : Nat) (w : World) (q : Value) (P : List WordD) (wr : World) : Prop where
  own : wr.ownsRow B 28 3 q P.length (P.flatMap wordCell)
  bel : Below B w wr
theorem PH.drewN {B : Nat} {w : World} {q : Value} {o : List WordD} {wr : World} (h : PH B w q o wr) (n : Nat) : PH B w q o (wr.drewN n) := ⟨h.own, h.bel.trans (Below.drewN _ n)⟩
set_option maxRecDepth 100000 in
set_option maxHeartbeats 6400000 in
theorem trieOrder_calls (kv tv : Value) (ks : List Txt) (ts : List Int) (h : Txt) (w : World) (hk : SlU w kv ks) (ht : SlI w w.heap.size tv ts) :
    Calls Try.prog 5 #[kv, tv, str h] w fun e w' => e = .returned (.bool true) ∧ Below w.heap.size w w' := by
  obtain ⟨A1, c1, rfl⟩ := hk.form
  obtain ⟨A2, c2, rfl⟩ := ht.form
  obtain ⟨i0, hi0, hz0, hz1, hz2⟩ := info_parts infoWord
  have hsz := size_str h
  have HC := Lib.hid (fits1_calls _ ks w hk)
  have HK := Lib.hid hk
  have HT := Lib.hid ht
  clear hk ht
  obtain ⟨ft, hft⟩ : ∃ ft, ft = fitU ks := ⟨_, rfl⟩
  rw [← hft] at HC
  have HFT := Lib.hid hft
  clear hft
  by_cases hb : ft = true ∧ (ts.length : Int) ≤ 2147483647 ∧ (h.length : Int) ≤ 2147483647
  case neg =>
    have h1 : ft = false ∨ (ft = true ∧ ((2147483647 : Int) < (ts.length : Int))) ∨ (ft = true ∧ (ts.length : Int) ≤ 2147483647 ∧ ((2147483647 : Int) < (h.length : Int))) := by
      cases ft
      · exact .inl rfl
      · by_cases h2 : (ts.length : Int) ≤ 2147483647
        · exact .inr (.inr ⟨rfl, h2, by
            rcases Int.lt_or_le 2147483647 (h.length : Int) with h3 | h3
            · exact h3
            · exact absurd ⟨rfl, h2, h3⟩ hb⟩)
        · exact .inr (.inl ⟨rfl, by omega⟩)
    clear hb
    rcases h1 with rfl | ⟨rfl, h2⟩ | ⟨rfl, h2, h3⟩
    all_goals
      go_enter Try.func5, Try.ntmps5
      go_wp2_with fail
      refine HC.out.mono ?_
      rintro e w1 ⟨rfl, b1⟩
      go_wp2
      go_ret
      exact ⟨rfl, b1⟩
  obtain ⟨rfl, hts, hh⟩ := hb
  have hts' : ¬ (2147483647 : Int) < (ts.length : Int) := by omega
  have hh' : ¬ (2147483647 : Int) < (h.length : Int) := by omega
  obtain ⟨hln, hfu⟩ := fitU_spec HFT.out.symm
  have HFU := Lib.hid hfu
  clear hfu
  go_enter Try.func5, Try.ntmps5
  go_wp2_with fail
  refine HC.out.mono ?_
  rintro e w1 ⟨rfl, b1⟩
  have HB1 := Lib.hid b1
  have HI := Lib.hid (show PH w1.heap.size w1 (.slice none 0 0) (putsN ks 0) w1 from ⟨World.ownsRow_nil _ _ _ _, Below.refl _ _⟩)
  have HKU := Lib.hid ((HK.out.below b1).mono b1.size)
  clear b1
  go_wp2_with fail
  go_loopw [7, 8, 9, 10] (fun q i _ _ wr => ∃ k : Nat, k ≤ ks.length ∧ i = .int .i64 (k : Nat) ∧ Hid (PH w1.heap.size w1 q (putsN ks k) wr)) (fun _ i _ _ _ => ks.length - (intOf i).toNat)
  case atStart => exact ⟨0, Nat.zero_le _, rfl, HI⟩
  case round =>
    obtain ⟨k, hk, rfl, HP⟩ := hrel
    by_cases hlt : k < ks.length
    · have hku := HKU.out.below HP.out.bel
      obtain ⟨b, off, rfl, l1, l2, l3, lx⟩ := SlU_at hku hlt
      obtain ⟨x, hx⟩ : ∃ x, x = ks.getD k [] := ⟨_, rfl⟩
      rw [← hx] at lx
      have HX := Lib.hid hx
      have HKR := Lib.hid hku
      obtain ⟨W, hW⟩ : ∃ W, W = wr := ⟨_, rfl⟩
      subst hW
      clear hx hku
      go_wp2_with fail
      have hf0 : (!x.isEmpty) = firstB ks k 0 := by unfold firstB neT; rw [← HX.out]; cases x <;> rfl
      have HF0 := Lib.hid hf0
      clear hf0
      go_loopw [9, 10] (fun v j ws => ∃ j' : Nat, j' ≤ k ∧ j = .int .i64 (j' : Nat) ∧ v = .bool (firstB ks k j') ∧ Hid (∃ n, ws = W.drewN n)) (fun _ j _ => k - (intOf j).toNat)
      case atStart => exact ⟨0, Nat.zero_le _, rfl, by rw [HF0.out], ⟨0, rfl⟩⟩
      case round =>
        obtain ⟨j, hj, rfl, rfl, HD⟩ := hrel
        obtain ⟨n0, hn0⟩ := HD.out
        subst hn0
        by_cases hjk : j < k
        · obtain ⟨b', off', e', _, _, _, ly⟩ := SlU_at HKR.out (show j < ks.length by omega)
          cases e'
          obtain ⟨y, hy⟩ : ∃ y, y = ks.getD j [] := ⟨_, rfl⟩
          rw [← hy] at ly
          have hfs : firstB ks k (j + 1) = (firstB ks k j && neT y x) := by rw [hy, HX.out]; rfl
          obtain ⟨f, hf⟩ : ∃ f, f = firstB ks k j := ⟨_, rfl⟩
          rw [← hf] at hfs
          rw [← hf]
          have HFS := Lib.hid hfs
          obtain ⟨W1, hW1⟩ : ∃ W1, W1 = W.drewN n0 := ⟨_, rfl⟩
          have HW1 := Lib.hid hW1
          have y1 : W1.cell? ⟨b, off + j, none⟩ = some (str y) := by rw [hW1]; exact ly
          have y2 : W1.cell? ⟨b, off + k, none⟩ = some (str x) := by rw [hW1]; exact lx
          have ij : (j : Int) < (ks.length : Int) := by omega
          have ik : (k : Int) < (ks.length : Int) := by omega
          rw [← hW1]
          clear hy hfs hf hW1 ly
          cases f with
          | true =>
            go_wp2_with fail
            go_quiet (fail)
            go_wp2_with fail
            exact ⟨⟨j + 1, by omega, by go_num, by rw [HFS.out]; rfl, ⟨_, by rw [HW1.out]; exact World.drewN_drewN _ _ _⟩⟩, by simp [intOf]; omega⟩
          | false =>
            go_wp2_with fail
            go_quiet (fail)
            go_wp2_with fail
            exact ⟨⟨j + 1, by omega, by go_num, by rw [HFS.out]; rfl, ⟨_, by rw [HW1.out]; exact World.drewN_drewN _ _ _⟩⟩, by simp [intOf]; omega⟩
        · have : j = k := by omega
          subst this
          have hps : putsN ks (j + 1) = putsN ks j ++ (if firstB ks j j then [⟨0, x, j⟩] else []) := by rw [HX.out]; rfl
          obtain ⟨f, hf⟩ : ∃ f, f = firstB ks j j := ⟨_, rfl⟩
          rw [← hf] at hps
          rw [← hf]
          have hpd := HP.out.drewN n0
          have hpl := putsN_len ks j
          obtain ⟨P, hP⟩ : ∃ P, P = putsN ks j := ⟨_, rfl⟩
          rw [← hP] at hps hpd hpl
          obtain ⟨W1, hW1⟩ : ∃ W1, W1 = W.drewN n0 := ⟨_, rfl⟩
          rw [← hW1] at hpd
          have y2 : W1.cell? ⟨b, off + j, none⟩ = some (str x) := by rw [hW1]; exact lx
          have HPD := Lib.hid hpd
          have HPS := Lib.hid hps
          have hbz := hpd.bel.size
          rw [← hW1]
          clear hW1 hpd hps hf hP HP HKR HF0 HD
          cases f with
          | true =>
            go_wp2_with (at_builtin; refine wpList_append_own _ rfl (.tmp 61) (.tmp 68) 22 rfl w1.heap.size 28 i0 _ 3 32 Try.underlying22 hi0 hz0 hz1 hz2 rfl (by omega) _ P.length (P.flatMap wordCell) rfl (HPD.out.own.alloc _) ⟨W1.heap.size, 0, none⟩ 1 1 [.int .i64 0, str x, .int .i64 j] rfl rfl (kd_news (Blk.new W1 _ _)) (by simp [Value.oneCell']) (by unfold maxLen; omega) (by omega) (by simp; omega) ?_; intro v2 w2 o2 g2 _)
            have hN : PH w1.heap.size w1 v2 (putsN ks (j + 1)) w2 := ⟨by
              rw [HPS.out]
              simp only [if_true, List.length_append, List.length_singleton, List.flatMap_append]
              exact o2, (HPD.out.bel.alloc hbz _).grown g2 (by simp; omega) (fun g hg => (HPD.out.own.lt g hg).1)⟩
            exact ⟨⟨j + 1, by omega, by go_num, Lib.hid hN⟩, by simp [intOf]; omega⟩
          | false =>
            have hN : PH w1.heap.size w1 u7 (putsN ks (j + 1)) W1 := by rw [HPS.out]; simpa using HPD.out
            have HN := Lib.hid hN
            clear hN
            go_wp2_with fail
            exact ⟨⟨j + 1, by omega, by go_num, HN⟩, by simp [intOf]; omega⟩
    · have : k = ks.length := by omega
      subst this
      have hph := HP.out
      have hputs := putsN_puts ks ks.length
      have hfw := fitW_puts HFU.out ks.length (Nat.le_refl _)
      have hpl := putsN_len ks ks.length
      obtain ⟨P, hP⟩ : ∃ P, P = putsN ks ks.length := ⟨_, rfl⟩
      rw [← hP] at hph hputs hfw hpl
      have hsl : SlC 3 wordCell wr wr.heap.size u7 P := own_SlC' wordCell_len rfl hph.own
      have hnn := own_nil hph.own
      obtain ⟨A7, c7, rfl⟩ := kd_form hph.own
      have hBw := HB1.out.trans (hph.bel.mono HB1.out.size)
      have HTT := Lib.hid (turned_calls _ _ P ts wr hsl hnn ((HT.out.below hBw).mono hBw.size) (by omega) (by omega))
      have HX := Lib.hid (And.intro hputs (And.intro hfw (And.intro hsl (And.intro hnn hBw))))
      have hpk := puts_keys hputs
      have HPK := Lib.hid hpk
      clear hph hputs hfw hsl hnn hBw hP HP hpk HK HKU HI
      go_wp2_with fail
      refine HTT.out.mono ?_
      rintro e w2 ⟨v2, L, rfl, o2, hperm, b2⟩
      have hsl2 : SlC 3 wordCell w2 w2.heap.size v2 L := own_SlC' wordCell_len hperm.length_eq o2
      have hn2 := own_nil o2
      obtain ⟨A8, c8, rfl⟩ := kd_form o2
      have HL2 := Lib.hid (And.intro hsl2 (And.intro hn2 hperm))
      have HP2 := Lib.hid ((HX.out.2.2.1.below b2).mono b2.size)
      have HB2 := Lib.hid (HX.out.2.2.2.2.trans (b2.mono HX.out.2.2.2.2.size))
      have hsame := puts_same hperm.symm HX.out.1
      have HSM := Lib.hid hsame
      have hlL := hperm.length_eq
      have hfL : fitW L := fun a ha => HX.out.2.1 a (hperm.mem_iff.1 ha)
      have HFL := Lib.hid (And.intro hfL hlL)
      clear o2 hsl2 hn2 hperm b2 hsame hlL hfL HTT
      have HWL := Lib.hid (fun (mv : Value) (x : WordD) (W : World) (hb : Below w2.heap.size w2 W) (hm : SlC 3 wordCell W W.heap.size mv [x]) (hx : x.key.length ≤ 2147483647) => wordLast_calls _ mv P x W ((HP2.out.below hb).mono hb.size) hm (by omega) HX.out.2.1 hx HX.out.2.2.2.1)
      have HWM := Lib.hid (fun (mv : Value) (x : WordD) (W : World) (hb : Below w2.heap.size w2 W) (hm : SlC 3 wordCell W W.heap.size mv [x]) (hx : x.key.length ≤ 2147483647) => by
        have h1 := wordLast_calls _ mv L x W (by have := (HL2.out.1.below hb).mono hb.size; exact this) hm (by rw [HFL.out.2]; omega) HFL.out.1 hx HL2.out.2.1
        rw [← HSM.out.tell x] at h1
        exact h1)
      obtain ⟨s, hs⟩ : ∃ s, s = runS new0 P := ⟨_, rfl⟩
      rw [← hs] at HWL HWM
      have hkl := (fit_keys HX.out.2.1 (by omega)).1
      have hwf : s.Wf := by rw [hs]; exact runS_wf' P
      rw [← hs] at hkl
      have hpk := HPK.out
      rw [← hs] at hpk
      have HS := Lib.hid (And.intro hkl (And.intro hwf hpk))
      rw [HFL.out.2] at *
      clear hs hkl hwf hpk HSM HL2
      go_wp2_with fail
      go_loopw [12, 13, 14, 15, 16] (fun i _ _ _ _ wr => ∃ d : Nat, 2 ≤ d ∧ d ≤ 8 ∧ i = .int .i64 (d : Nat) ∧ Hid (Below w2.heap.size w2 wr)) (fun i _ _ _ _ _ => 8 - (intOf i).toNat)
      case atStart => exact ⟨2, by omega, by omega, rfl, Lib.hid (Below.refl _ _)⟩
      case round =>
        obtain ⟨a, ha2, ha8, rfl, HR⟩ := hrel
        by_cases hlt : a ≤ 7
        · obtain ⟨D, hD⟩ : ∃ D, D = tellW ⟨a, h, 0⟩ s := ⟨_, rfl⟩
          have HC1 := HWL.out
          have HC2 := HWM.out
          have hdk : D.keys.length ≤ 4294967296 := by rw [hD]; exact Nat.le_trans (tell_len HS.out.2.1 _) (by have := HS.out.1; omega)
          have hA := (Blk.new wr #[.int .i64 a, str h, .int .i64 0] 28)
          have hbA := HR.out.alloc HR.out.size (.cells #[.int .i64 a, str h, .int .i64 0] 28)
          have HCA := Lib.hid (HC1 _ ⟨a, h, 0⟩ _ hbA (one_word hA) (by simp only; omega))
          rw [← hD] at HCA
          have HBA := Lib.hid (And.intro hbA hD)
          clear hA hbA HC1 HC2 hD
          go_wp2_with fail
          refine HCA.out.mono ?_
          rintro e w4 ⟨kv, rfl, n4, b4⟩
          obtain ⟨kA, kc, rfl⟩ := n4.form
          have hb4 := HBA.out.1.trans (b4.mono HBA.out.1.size)
          have hx5 := (Blk.new w4 #[.int .i64 D.val, .bool D.ok, str D.key, .slice kA D.keys.length kc] 31).alloc (.cells #[.int .i64 a, str h, .int .i64 0] 28)
          have hA := Blk.new (w4.alloc (.cells #[.int .i64 D.val, .bool D.ok, str D.key, .slice kA D.keys.length kc] 31)) #[.int .i64 a, str h, .int .i64 0] 28
          rw [show (w4.alloc (.cells #[.int .i64 D.val, .bool D.ok, str D.key, .slice kA D.keys.length kc] 31)).heap.size = w4.heap.size + 1 by simp] at hA
          have hb5 : Below w4.heap.size w4 ((w4.alloc (.cells #[.int .i64 D.val, .bool D.ok, str D.key, .slice kA D.keys.length kc] 31)).alloc (.cells #[.int .i64 a, str h, .int .i64 0] 28)) := ((Below.refl _ w4).alloc (Nat.le_refl _) _).alloc (by simp) _
          have HCB := Lib.hid (HWM.out _ ⟨a, h, 0⟩ _ (hb4.trans (hb5.mono hb4.size)) (one_word hA) (by simp only; omega))
          rw [← HBA.out.2] at HCB
          have HB4 := Lib.hid (And.intro (hb4.trans (hb5.mono hb4.size)) (And.intro hx5 (n4.below hb5)))
          clear n4 b4 hb4 hx5 hA hb5 HCA
          go_wp2_with fail
          refine HCB.out.mono ?_
          rintro e w6 ⟨kv, rfl, n6, b6⟩
          obtain ⟨kB, kd, rfl⟩ := n6.form
          obtain ⟨h4a, h4b, h4c⟩ := HB4.out
          obtain ⟨W, hW⟩ : ∃ W, W = w6.alloc (.cells #[.int .i64 D.val, .bool D.ok, str D.key, .slice kB D.keys.length kd] 31) := ⟨_, rfl⟩
          have hb7 : Below w6.heap.size w6 W := by rw [hW]; exact (Below.refl _ w6).alloc (Nat.le_refl _) _
          have hy := h4b.below b6 h4b.lt
          have hx := hy.below hb7 hy.lt
          have hz : Blk W w6.heap.size #[.int .i64 D.val, .bool D.ok, str D.key, .slice kB D.keys.length kd] 31 := by rw [hW]; exact Blk.new w6 _ _
          have HN := Lib.hid (And.intro ((h4c.below b6).below hb7) (n6.below hb7))
          have HBW := Lib.hid ((h4a.trans (b6.mono h4a.size)).trans (hb7.mono (Nat.le_trans h4a.size b6.size)))
          have x0 := hx.cell 0
          have x1 := hx.cell 1
          have x2 := hx.cell 2
          have x3 := hx.cell 3
          have z0 := hz.cell 0
          have z1 := hz.cell 1
          have z2 := hz.cell 2
          have z3 := hz.cell 3
          simp only [List.getElem?_toArray] at x0 x1 x2 x3 z0 z1 z2 z3
          have HSS := Lib.hid (sameSays_calls a D _ _ W HN.out.1 HN.out.2 hdk)
          have HWW := Lib.hid hW
          clear h4a h4b h4c hb7 hy hx hz n6 b6 hW
          go_upto_region 20 with (fail)
          change Code.wp _ _ _ _ (w6.alloc (.cells #[.int .i64 D.val, .bool D.ok, str D.key, .slice kB D.keys.length kd] 31))
          rw [← HWW.out]
          go_wp2_with fail
          refine HSS.out.mono ?_
          rintro e w8 ⟨rfl, b8⟩
          have HE := Lib.hid (HBW.out.trans (b8.mono HBW.out.size))
          clear b8 x0 x1 x2 x3 z0 z1 z2 z3
          go_wp2_with fail
          exact ⟨⟨a + 1, by omega, by omega, by go_num, HE⟩, by simp [intOf]; omega⟩
        · have : a = 8 := by omega
          subst this
          have e4 : tellW ⟨4, [], 0⟩ s = ⟨0, false, [], s.t.keys⟩ := rfl
          have HC1 := HWL.out
          have hA := (Blk.new wr #[.int .i64 4, str [], .int .i64 0] 28)
          have hbA := HR.out.alloc HR.out.size (.cells #[.int .i64 4, str [], .int .i64 0] 28)
          have HCA := Lib.hid (HC1 _ ⟨4, [], 0⟩ _ hbA (one_word hA) (by simp))
          rw [e4] at HCA
          have hkl := HS.out.2.2
          obtain ⟨K, hK⟩ : ∃ K, K = s.t.keys := ⟨_, rfl⟩
          rw [← hK] at HCA hkl
          have HBA := Lib.hid hbA
          clear hA hbA HC1 e4 hK
          go_wp2_with fail
          refine HCA.out.mono ?_
          rintro e w4 ⟨kv, rfl, n4, b4⟩
          obtain ⟨kA, kc, rfl⟩ := n4.form
          have hb4 := HB2.out.trans ((HBA.out.trans (b4.mono HBA.out.size)).mono HB2.out.size)
          have HE := Lib.hid (hb4.alloc hb4.size (.cells #[.int .i64 0, .bool false, str [], .slice kA K.length kc] 31))
          have heq : ((K.length : Int) == (P.length : Int)) = true := by rw [beq_iff_eq]; omega
          simp only
          clear n4 b4 hb4 hkl
          go_wp2_with fail
          go_ret
          exact ⟨by simp [heq], HE.out⟩
end Go.Proofs.Ytlpcddmcddenfaa.Kp
