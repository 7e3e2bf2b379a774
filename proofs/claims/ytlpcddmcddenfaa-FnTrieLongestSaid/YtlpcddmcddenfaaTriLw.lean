/- laws.FnTrieLongest: the walk. -/
import Derived.Test.YtlpcddmcddenfaaTriPw
namespace Go.Proofs.Ytlpcddmcddenfaa.Kp
open Go.RowKit Tri

theorem look_at (l : List WordD) (x : Txt) : tellW ⟨3, x, 0⟩ (runS new0 l) = ⟨0, ((runS new0 l).t.look x).isSome, [], []⟩ := rfl
/-- what the law asks. -/
theorem longest_ok (t : Tr) (x : Txt) (n : Nat) (h0 : 0 < n) (hn : n ≤ x.length) : (decide (t.long x < n) && (t.look (x.take n)).isSome) = false ∧ (decide (n = t.long x) && !(t.look (x.take n)).isSome) = false := by
  constructor
  · rw [Bool.and_eq_false_iff]
    by_cases h : (t.look (x.take n)).isSome = true
    · left
      have := long_some t x n h0 hn h
      simp; omega
    · right; simpa using h
  · rw [Bool.and_eq_false_iff]
    by_cases h : n = t.long x
    · right
      have := long_is t x (by omega)
      rw [← h] at this
      simp [this]
    · left; simpa using h
set_option maxRecDepth 100000 in
set_option maxHeartbeats 3200000 in
theorem trieLongest_calls (lv : Value) (l : List WordD) (h : Txt) (w : World) (hl : SlC 3 wordCell w w.heap.size lv l) (hna : ∀ m c, lv = .slice none m c → m = 0 ∧ c = 0) :
    Calls Try.prog 4 #[lv, str h] w fun e w' => e = .returned (.bool true) ∧ Below w.heap.size w w' := by
  obtain ⟨A3, c3, rfl⟩ := hl.form
  have hsz := size_str h
  have HL := Lib.hid hl
  have HNA := Lib.hid hna
  have HC := Lib.hid (fits6_calls _ l w hl)
  clear hl hna
  obtain ⟨ft, hft⟩ : ∃ ft, ft = fitB l := ⟨_, rfl⟩
  rw [← hft] at HC
  have HFT := Lib.hid hft
  clear hft
  by_cases hh : (h.length : Int) ≤ 2147483647
  case neg =>
    have hh' : (2147483647 : Int) < (h.length : Int) := by omega
    go_enter Try.func4, Try.ntmps4
    go_wp2_with fail
    refine HC.out.mono ?_
    rintro e w1 ⟨rfl, b1⟩
    cases ft <;> (go_wp2; go_ret; exact ⟨rfl, b1⟩)
  have hh' : ¬ (2147483647 : Int) < (h.length : Int) := by omega
  go_enter Try.func4, Try.ntmps4
  go_wp2_with fail
  refine HC.out.mono ?_
  rintro e w1 ⟨rfl, b1⟩
  cases ft with
  | false =>
    go_wp2
    go_ret
    exact ⟨rfl, b1⟩
  | true =>
    obtain ⟨hln, hfw⟩ := fitB_spec HFT.out.symm
    obtain ⟨s, hs⟩ : ∃ s, s = runS new0 l := ⟨_, rfl⟩
    have e6 : tellW ⟨6, h, 0⟩ s = ⟨0, false, h.take (s.t.long h), []⟩ := rfl
    have e3 : ∀ x, tellW ⟨3, x, 0⟩ s = ⟨0, (s.t.look x).isSome, [], []⟩ := fun _ => rfl
    have HWL := Lib.hid (fun (mv : Value) (x : WordD) (W : World) (hb : Below w.heap.size w W) (hm : SlC 3 wordCell W W.heap.size mv [x]) (hx : x.key.length ≤ 2147483647) => wordLast_calls _ mv l x W ((HL.out.below hb).mono hb.size) hm hln hfw hx HNA.out)
    rw [← hs] at HWL
    have HE3 := Lib.hid e3
    have HE6 := Lib.hid e6
    have HB1 := Lib.hid b1
    clear hfw hs e3 e6 b1
    go_wp2_with fail
    have hA := (Blk.new w1 #[.int .i64 6, str h, .int .i64 0] 28)
    have hbA := HB1.out.alloc HB1.out.size (.cells #[.int .i64 6, str h, .int .i64 0] 28)
    refine (HWL.out _ ⟨6, h, 0⟩ _ hbA (one_word hA) (by simp only; omega)).mono ?_
    rintro e w2 ⟨kv, rfl, n2, b2⟩
    rw [HE6.out] at *
    obtain ⟨kA, kc, rfl⟩ := n2.form
    have HB2 := Lib.hid (hbA.trans (b2.mono hbA.size))
    clear n2 b2 hA hbA
    simp only
    go_wp2_with fail
    have htl : (h.take (s.t.long h)).length = s.t.long h := by rw [List.length_take]; have := long_le s.t h; omega
    obtain ⟨lg, hlg⟩ : ∃ lg, lg = s.t.long h := ⟨_, rfl⟩
    obtain ⟨bk, hbk⟩ : ∃ bk, bk = h.take (s.t.long h) := ⟨_, rfl⟩
    have hpre : bk.isPrefixOf h = true := by rw [hbk]; exact List.isPrefixOf_iff_prefix.2 (List.take_prefix _ _)
    rw [← hbk] at htl ⊢
    rw [← hlg] at htl
    obtain ⟨W0, hW0⟩ : ∃ W0, W0 = w2.alloc (.cells #[.int .i64 0, .bool false, str bk, .slice kA 0 kc] 31) := ⟨_, rfl⟩
    have hs5 : Blk W0 w2.heap.size #[.int .i64 0, .bool false, str bk, .slice kA 0 kc] 31 := by rw [hW0]; exact Blk.new w2 _ _
    have hB0 : Below w.heap.size w W0 := by rw [hW0]; exact HB2.out.alloc HB2.out.size _
    have HBG := Lib.hid (begins_calls h bk W0 (by omega) (by rw [htl, hlg]; have := long_le s.t h; omega))
    rw [hpre] at HBG
    have HX := Lib.hid (And.intro hs5 (And.intro hB0 (And.intro hlg hbk)))
    have hszb := size_str bk
    rw [htl] at hszb
    change Calls _ _ _ (w2.alloc (.cells #[.int .i64 0, .bool false, str bk, .slice kA 0 kc] 31)) _
    rw [← hW0]
    have HSZ := Lib.hid (show w2.heap.size < W0.heap.size from hs5.lt)
    generalize w2.heap.size = b5 at *
    clear hs5 hB0 hlg hbk hpre htl hW0
    refine HBG.out.mono ?_
    rintro e w3 ⟨rfl, rfl⟩
    go_wp2_with fail
    go_loopw [7, 8, 9] (fun i _ _ wr => ∃ n : Nat, 1 ≤ n ∧ n ≤ h.length + 1 ∧ i = .int .i64 (n : Nat) ∧ Hid (Below W0.heap.size W0 wr)) (fun i _ _ _ => h.length + 1 - (intOf i).toNat)
    case atStart => exact ⟨1, Nat.le_refl _, by omega, rfl, Lib.hid (Below.refl _ _)⟩
    case round =>
      obtain ⟨n, hn1, hn2, rfl, HR⟩ := hrel
      by_cases hlt : n ≤ h.length
      · have hex := extract_take h n
        have hb0 : Below w.heap.size w wr := HX.out.2.1.trans (HR.out.mono HX.out.2.1.size)
        have hc5 : wr.cell? ⟨b5, 2, none⟩ = some (str bk) := (HR.out.cell (p := ⟨b5, 2, none⟩) HSZ.out).trans (HX.out.1.cell 2)
        have hA := (Blk.new wr #[.int .i64 3, str (h.take n), .int .i64 0] 28)
        have hbA := hb0.alloc hb0.size (.cells #[.int .i64 3, str (h.take n), .int .i64 0] 28)
        have hbR := HR.out.alloc HR.out.size (.cells #[.int .i64 3, str (h.take n), .int .i64 0] 28)
        have HC2 := Lib.hid (HWL.out _ ⟨3, h.take n, 0⟩ _ hbA (one_word hA) (by simp only [List.length_take]; omega))
        rw [HE3.out (h.take n)] at HC2
        have hok := longest_ok s.t h n (by omega) hlt
        obtain ⟨ok, hok0⟩ : ∃ ok, ok = (s.t.look (h.take n)).isSome := ⟨_, rfl⟩
        rw [← hok0, ← HX.out.2.2.1] at hok
        rw [← hok0] at HC2
        have HBR := Lib.hid (And.intro hbA (And.intro hbR hok))
        have hb5r : b5 < wr.heap.size := Nat.lt_of_lt_of_le HSZ.out HR.out.size
        clear hb0 hA hbA hbR hok hok0
        go_wp2_with fail
        refine HC2.out.mono ?_
        rintro e w4 ⟨kv, rfl, n4, b4⟩
        obtain ⟨kB, kd, rfl⟩ := n4.form
        have hW := HBR.out.2.1.trans (b4.mono HBR.out.2.1.size)
        have c5 : w4.cell? ⟨b5, 2, none⟩ = some (str bk) := (hW.cell (p := ⟨b5, 2, none⟩) HSZ.out).trans (HX.out.1.cell 2)
        have hb4 : b5 < w4.heap.size := Nat.lt_of_lt_of_le HSZ.out hW.size
        have HW := Lib.hid (hW.alloc hW.size (.cells #[.int .i64 0, .bool ok, str [], .slice kB 0 kd] 31))
        obtain ⟨hk1, hk2⟩ := HBR.out.2.2
        simp only
        have ewn : IntKind.i64.wrap ((n : Int) + 1) = (n : Int) + 1 := IntWalk.i64_in _ (by omega)
        clear hW n4 b4
        rcases Nat.lt_trichotomy n lg with hc | hc | hc
        · have d1 : ¬ (lg : Int) < (n : Int) := by omega
          have d2 : ((n : Int) == (lg : Int)) = false := by rw [beq_eq_false_iff_ne]; omega
          clear hk1 hk2
          go_wp2_with fail
          exact ⟨⟨n + 1, by omega, by omega, by go_num, HW⟩, by simp [intOf]; omega⟩
        · have d1 : ¬ (lg : Int) < (n : Int) := by omega
          have d2 : ((n : Int) == (lg : Int)) = true := by rw [beq_iff_eq]; omega
          obtain rfl : ok = true := by
            rw [decide_eq_true hc, Bool.true_and] at hk2
            simpa using hk2
          clear hk1 hk2 hc
          go_wp2_with fail
          exact ⟨⟨n + 1, by omega, by omega, by go_num, HW⟩, by simp [intOf]; omega⟩
        · have d1 : (lg : Int) < (n : Int) := by omega
          have d2 : ((n : Int) == (lg : Int)) = false := by rw [beq_eq_false_iff_ne]; omega
          obtain rfl : ok = false := by
            rw [decide_eq_true hc, Bool.true_and] at hk1
            exact hk1
          clear hk1 hk2
          go_wp2_with fail
          exact ⟨⟨n + 1, by omega, by omega, by go_num, HW⟩, by simp [intOf]; omega⟩
      · have hlt' : ¬ (n : Int) ≤ (h.length : Int) := by omega
        have HE := Lib.hid (HX.out.2.1.trans (HR.out.mono HX.out.2.1.size))
        go_wp2_with fail
        go_ret
        exact ⟨rfl, HE.out⟩
end Go.Proofs.Ytlpcddmcddenfaa.Kp
