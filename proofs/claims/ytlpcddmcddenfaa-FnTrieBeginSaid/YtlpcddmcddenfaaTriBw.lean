/- laws.wordSame, laws.FnTrieBegin: the walk. -/
import Derived.Test.YtlpcddmcddenfaaTriB6
import Derived.Test.YtlpcddmcddenfaaTriO0
namespace Go.Proofs.Ytlpcddmcddenfaa.Kp
open Go.RowKit Tri

set_option maxRecDepth 100000 in
set_option maxHeartbeats 1600000 in
theorem wordSame_calls (act : Int) (d : SaysD) (kv mv bv : Value) (w : World) (h1 : NX 9 str w kv d.keys) (h2 : NX 9 str w mv d.keys) (hk : d.keys.length ≤ 4294967296) (hbv : bv = .bool false ∨ bv = .bool true) :
    Calls Try.prog 10 #[.int .i64 act, .agg #[.int .i64 d.val, .bool d.ok, str d.key, kv], .agg #[.int .i64 d.val, .bool d.ok, str d.key, mv], bv] w fun e w' => e = .returned (.bool true) ∧ Below w.heap.size w w' := by
  obtain ⟨A1, c1, rfl⟩ := h1.form
  obtain ⟨A2, c2, rfl⟩ := h2.form
  obtain ⟨val, ok, key, keys⟩ := d
  simp only at h1 h2 hk ⊢
  have hb : Below w.heap.size w ((w.alloc (.cells #[.int .i64 val, .bool ok, str key, .slice A1 keys.length c1] 31)).alloc (.cells #[.int .i64 val, .bool ok, str key, .slice A2 keys.length c2] 31)) := ((Below.refl _ w).alloc (Nat.le_refl _) _).alloc (by simp) _
  have HC := Lib.hid (sameSays_calls act ⟨val, ok, key, keys⟩ _ _ _ (h1.below hb) (h2.below hb) hk)
  have HB := Lib.hid hb
  clear hb h1 h2
  simp only at HC
  have hc : ((act == 7) = true ∧ bv = .bool false) ∨ ((act == 7) = true ∧ bv = .bool true) ∨ (act == 7) = false := by
    cases act == 7 <;> rcases hbv with rfl | rfl <;> simp
  clear hbv
  rcases hc with ⟨e1, rfl⟩ | ⟨e1, rfl⟩ | e1
  · go_enter Try.func10, Try.ntmps10
    go_wp2_with fail
    go_ret
    exact ⟨rfl, HB.out⟩
  all_goals
    go_enter Try.func10, Try.ntmps10
    go_wp2_with fail
    refine HC.out.mono ?_
    rintro e w1 ⟨rfl, b1⟩
    have HE := Lib.hid (HB.out.trans (b1.mono HB.out.size))
    clear b1
    go_wp2_with fail
    go_ret
    exact ⟨rfl, HE.out⟩
/-- a row that tells ds, at a place. -/
theorem Told.at_ {w : World} {B n c : Nat} {A : Option Addr} {ds : List SaysD} (h : Told w B (.slice A n c) ds) {i : Nat} {d : SaysD} (hi : ds[i]? = some d) : ∃ g kv, A = some ⟨g, 0, none⟩ ∧ B ≤ g ∧ g < w.heap.size ∧ ds.length ≤ c ∧
    w.cell? ⟨g, i * 4, none⟩ = some (.int .i64 d.val) ∧ w.cell? ⟨g, i * 4 + 1, none⟩ = some (.bool d.ok) ∧ w.cell? ⟨g, i * 4 + 2, none⟩ = some (str d.key) ∧ w.cell? ⟨g, i * 4 + 3, none⟩ = some kv ∧ NX 9 str w kv d.keys := by
  obtain ⟨cs, ho, ht⟩ := h
  obtain ⟨kv, g0, g1, g2, g3, g4⟩ := ht.at_ hi
  rcases ho.2 with ⟨e, h0⟩ | ⟨g, cap, cur, e, h1, h2, h3, _⟩
  · have := List.length_eq_zero_iff.1 h0
    subst this
    simp at hi
  · cases e
    have hc : ∀ j u, cs[j]? = some u → w.cell? ⟨g, j, none⟩ = some u := by
      intro j u hj
      have := ho.cells (g := g) rfl j u hj
      rwa [show (⟨g, 0, none⟩ : Addr).add j = ⟨g, j, none⟩ by unfold Addr.add; split <;> simp_all] at this
    exact ⟨g, kv, rfl, h1, (Array.getElem?_eq_some_iff.1 h2).1, h3, hc _ _ g0, hc _ _ g1, hc _ _ g2, hc _ _ g3, g4⟩
theorem Told.below {w w' : World} {B : Nat} {v : Value} {ds : List SaysD} (h : Told w B v ds) (hb : Below w.heap.size w w') : Told w' B v ds := by
  obtain ⟨cs, ho, ht⟩ := h
  exact ⟨cs, kd_below hb ho, ht.keep (KeepT.below hb)⟩
theorem Told.form {w : World} {B : Nat} {v : Value} {ds : List SaysD} (h : Told w B v ds) : ∃ A c, v = .slice A ds.length c := by
  obtain ⟨cs, ho, _⟩ := h
  exact kd_form ho
theorem word_take {w : World} {B n c k : Nat} {A : Option Addr} {l : List WordD} (h : SlC 3 wordCell w B (.slice A n c) l) (hk : k ≤ l.length) : SlC 3 wordCell w B (.slice A k c) (l.take k) := by
  obtain ⟨A', cap, e, h⟩ := h.is
  cases e
  refine ⟨⟨A, c, by rw [List.length_take, Nat.min_eq_left hk], ?_⟩⟩
  rcases h with rfl | ⟨b, off, rfl, h1, h3, h4, h5⟩
  · exact .inl (by simp)
  · refine .inr ⟨b, off, rfl, by rw [List.length_take]; omega, h3, h4, fun i a hi j u hj => h5 i a ?_ j u hj⟩
    rw [List.getElem?_take] at hi
    split at hi
    · exact hi
    · cases hi
theorem runW_at (l : List WordD) (s : St) {j : Nat} {a : WordD} (h : l[j]? = some a) : (runW s l)[j]? = some (tellW a (runS s (l.take j))) := by
  have hl := (List.getElem?_eq_some_iff.1 h).1
  have e := runW_take l s h
  rw [runW_pre] at e
  have hj : ((runW s l).take (j + 1))[j]? = (runW s l)[j]? := by rw [List.getElem?_take, if_pos (by omega)]
  rw [← hj, e, List.getElem?_append_right (by rw [runW_len, List.length_take]; omega), runW_len, List.length_take, Nat.min_eq_left (Nat.le_of_lt hl)]
  simp
theorem told_len_ {s : St} (h : s.Wf) (w : WordD) : (tellW w s).keys.length ≤ s.t.keys.length := by
  unfold tellW
  repeat' split
  all_goals first | exact Nat.le_refl _ | exact kwp_len _ h _ | exact Nat.zero_le _
/-- which part a number cuts off. -/
theorem cut_at (cut : Int) (n : Nat) : ∃ k : Nat, k ≤ n ∧ (cut.tmod ((n : Int) + 1) + n + 1).tmod ((n : Int) + 1) = (k : Int) ∧ -((n : Int) + 1) < cut.tmod ((n : Int) + 1) ∧ cut.tmod ((n : Int) + 1) < (n : Int) + 1 := by
  have h1 : cut.tmod ((n : Int) + 1) < (n : Int) + 1 := Int.tmod_lt_of_pos _ (by omega)
  have h2 : -((n : Int) + 1) < cut.tmod ((n : Int) + 1) := by
    have := Int.tmod_lt_of_pos (-cut) (show (0 : Int) < (n : Int) + 1 by omega)
    rw [Int.neg_tmod] at this; omega
  have h3 : 0 ≤ (cut.tmod ((n : Int) + 1) + n + 1).tmod ((n : Int) + 1) := Int.tmod_nonneg _ (by omega)
  have h4 : (cut.tmod ((n : Int) + 1) + n + 1).tmod ((n : Int) + 1) < (n : Int) + 1 := Int.tmod_lt_of_pos _ (by omega)
  exact ⟨((cut.tmod ((n : Int) + 1) + n + 1).tmod ((n : Int) + 1)).toNat, by omega, by omega, h2, h1⟩
/-- what a round reads. -/
def BS (b o : Nat) (act : Int) (ga oa : Nat) (val : Int) (ok : Bool) (key : Txt) (kva : Value) (gb ob : Nat) (kvb : Value) (w' : World) : Prop :=
  w'.cell? ⟨b, o, none⟩ = some (.int .i64 act) ∧ w'.cell? ⟨ga, oa, none⟩ = some (.int .i64 val) ∧ w'.cell? ⟨ga, oa + 1, none⟩ = some (.bool ok) ∧ w'.cell? ⟨ga, oa + 2, none⟩ = some (str key) ∧ w'.cell? ⟨ga, oa + 3, none⟩ = some kva ∧
  w'.cell? ⟨gb, ob, none⟩ = some (.int .i64 val) ∧ w'.cell? ⟨gb, ob + 1, none⟩ = some (.bool ok) ∧ w'.cell? ⟨gb, ob + 2, none⟩ = some (str key) ∧ w'.cell? ⟨gb, ob + 3, none⟩ = some kvb
theorem BS.keep {b o : Nat} {act : Int} {ga oa : Nat} {val : Int} {ok : Bool} {key : Txt} {kva : Value} {gb ob : Nat} {kvb : Value} {w w' : World} {B : Nat} (h : BS b o act ga oa val ok key kva gb ob kvb w) (hb : Below B w w') (h1 : b < B) (h2 : ga < B) (h3 : gb < B) : BS b o act ga oa val ok key kva gb ob kvb w' :=
  ⟨(hb.cell (p := ⟨b, o, none⟩) h1).trans h.1, (hb.cell (p := ⟨ga, oa, none⟩) h2).trans h.2.1, (hb.cell (p := ⟨ga, oa + 1, none⟩) h2).trans h.2.2.1, (hb.cell (p := ⟨ga, oa + 2, none⟩) h2).trans h.2.2.2.1, (hb.cell (p := ⟨ga, oa + 3, none⟩) h2).trans h.2.2.2.2.1,
    (hb.cell (p := ⟨gb, ob, none⟩) h3).trans h.2.2.2.2.2.1, (hb.cell (p := ⟨gb, ob + 1, none⟩) h3).trans h.2.2.2.2.2.2.1, (hb.cell (p := ⟨gb, ob + 2, none⟩) h3).trans h.2.2.2.2.2.2.2.1, (hb.cell (p := ⟨gb, ob + 3, none⟩) h3).trans h.2.2.2.2.2.2.2.2⟩
set_option maxRecDepth 100000 in
set_option maxHeartbeats 6400000 in
theorem trieBegin_calls (lv : Value) (l : List WordD) (cut : Int) (w : World) (hl : SlC 3 wordCell w w.heap.size lv l) :
    Calls Try.prog 3 #[lv, .int .i64 cut] w fun e w' => e = .returned (.bool true) ∧ Below w.heap.size w w' := by
  obtain ⟨A3, c3, rfl⟩ := hl.form
  have HL := Lib.hid hl
  have HC := Lib.hid (fits6_calls _ l w hl)
  clear hl
  obtain ⟨ft, hft⟩ : ∃ ft, ft = fitB l := ⟨_, rfl⟩
  rw [← hft] at HC
  have HFT := Lib.hid hft
  clear hft
  obtain ⟨k, hk, e1, e2, e3⟩ := cut_at cut l.length
  have HK0 := Lib.hid (And.intro e1 (And.intro e2 e3))
  clear e1 e2 e3
  go_enter Try.func3, Try.ntmps3
  go_wp2_with fail
  refine HC.out.mono ?_
  rintro e w1 ⟨rfl, b1⟩
  cases ft with
  | false =>
    go_wp2
    go_ret
    exact ⟨rfl, b1⟩
  | true =>
    obtain ⟨hln, hfw⟩ := fitB_spec HFT.out.symm
    have HF := Lib.hid hfw
    have HW := Lib.hid b1
    obtain ⟨e1, e2, e3⟩ := HK0.out
    clear b1 hfw HC
    go_wp2_with fail
    have hkc : (k : Int) ≤ (c3 : Int) := by
      obtain ⟨A', cap, e, h⟩ := HL.out.is
      cases e
      rcases h with rfl | ⟨_, _, _, h1, _⟩
      · simp at hk; omega
      · omega
    have hk0 : (0 : Int) ≤ (k : Int) := by omega
    have HC1 := Lib.hid (fun w2 (h : Below w.heap.size w w2) => trieRun_calls _ l w2 ((HL.out.below h).mono h.size) (by omega) HF.out)
    have HC2 := Lib.hid (fun w2 (h : Below w.heap.size w w2) => trieRun_calls _ (l.take k) w2 ((word_take (HL.out.below h) hk).mono h.size) (by rw [List.length_take]; omega) (fun a ha => HF.out a (List.mem_of_mem_take ha)))
    have HKL := Lib.hid (show (runW new0 (l.take k)).length = k by rw [runW_len, List.length_take, Nat.min_eq_left hk])
    have t0 : ((k : Int) != k) = false := bne_self_eq_false _
    have t1 : ((l.length : Int) != l.length) = false := bne_self_eq_false _
    clear e1 e2 e3
    go_region_with (first
      | (go_at_call_of 9 (Value.slice A3 l.length c3); refine (HC1.out _ (HW.out.trans (Below.drewN _ 1))).mono ?_; rintro e w2 ⟨v2, rfl, s2, hb2⟩; obtain ⟨A4, c4, rfl⟩ := s2.form; rw [runW_len]; have HB2 := Lib.hid ((HW.out.trans (Below.drewN _ 1)).trans (hb2.mono (by have := HW.out.size; simp; omega))); have HS2 := Lib.hid s2; clear s2 hb2)
      | (go_at_call 9; refine (HC2.out _ HB2.out).mono ?_; rintro e w3 ⟨v3, rfl, s3, hb3⟩; obtain ⟨A5, c5, rfl⟩ := s3.form; rw [HKL.out]; have HB3 := Lib.hid (HB2.out.trans (hb3.mono HB2.out.size)); have HS3 := Lib.hid (And.intro s3 (HS2.out.below hb3)); clear s3 hb3))
    all_goals
      go_wp2_with fail
      clear t0 t1
      go_loopw [8] (fun i wr => ∃ j : Nat, j ≤ k ∧ i = .int .i64 (j : Nat) ∧ Hid (Below w3.heap.size w3 wr)) (fun i _ => k - (intOf i).toNat)
      case atStart => exact ⟨0, Nat.zero_le _, rfl, (show Below w3.heap.size w3 w3 from Below.refl _ _)⟩
      case round =>
        obtain ⟨j, hj, rfl, HK⟩ := hrel
        by_cases hlt : j < k
        · obtain ⟨b, off, a, rfl, g1, g3, g4, g5, z⟩ := HL.out.at_ (show j < l.length by omega)
          obtain ⟨d, hd⟩ : ∃ d, d = tellW a (runS new0 (l.take j)) := ⟨_, rfl⟩
          have hd1 : (runW new0 l)[j]? = some d := by rw [hd]; exact runW_at l new0 g5
          have hd2 : (runW new0 (l.take k))[j]? = some d := by rw [runW_pre l new0 k, List.getElem?_take, if_pos hlt]; exact hd1
          have hkl : d.keys.length ≤ 4294967296 := by
            have hfr := fit_run l HF.out j
            obtain ⟨h1, _, _, _⟩ := hfr
            have h2 := told_len_ (runS_wf (l.take j) (s := new0) trivial) a
            rw [keys_cnt] at h2
            rw [hd]
            omega
          have hbw : Below w.heap.size w wr := HB3.out.trans (HK.out.mono HB3.out.size)
          have q0 := (hbw.cell (p := ⟨b, off + j * 3, none⟩) g3).trans (z 0 _ rfl)
          obtain ⟨ga, kva, rfl, _, la, ha0, qa0, qa1, qa2, qa3, sa⟩ := (HS3.out.2.below HK.out).at_ hd1
          obtain ⟨gb, kvb, rfl, _, lb, hb0, qb0, qb1, qb2, qb3, sb⟩ := (HS3.out.1.below HK.out).at_ hd2
          obtain ⟨ka, kac, rfl⟩ := sa.form
          obtain ⟨kb, kbc, rfl⟩ := sb.form
          have hbl : b < wr.heap.size := Nat.lt_of_lt_of_le g4 hbw.size
          obtain ⟨act, key, val⟩ := a
          simp only at q0
          have p3 : (0 : Int) ≤ (j : Int) := by omega
          have p4 : (j : Int) < (l.length : Int) := by omega
          have p5 : (j : Int) < (k : Int) := by omega
          have HX := Lib.hid (And.intro sa (And.intro sb (And.intro hkl hbw)))
          have HRM := Lib.hid (fun (u : World) (hu : Below wr.heap.size wr u) => removed_calls _ l u ((HL.out.below (hbw.trans (hu.mono hbw.size))).mono (Nat.le_trans hbw.size hu.size)) (by omega) HF.out)
          clear hd hd1 hd2 hkl g5 z hbw sa sb ha0 hb0 g3 g4
          generalize hKa : Value.slice ka d.keys.length kac = kva at *
          generalize hKb : Value.slice kb d.keys.length kbc = kvb at *
          have HKA := Lib.hid (And.intro hKa hKb)
          clear hKa hKb
          go_upto_region 10 with (fail)
          have b1 : Below wr.heap.size wr wr.drew := Below.drewN wr 1
          refine wp_region_G (BS b (off + j * 3) act ga (j * 4) d.val d.ok d.key kva gb (j * 4) kvb) (fun _ => false) (by kernel_rfl) ?_
          have hS0 : (BS b (off + j * 3) act ga (j * 4) d.val d.ok d.key kva gb (j * 4) kvb) wr.drew := ⟨q0, qa0, qa1, qa2, qa3, qb0, qb1, qb2, qb3⟩
          refine wpAnyG_take (i := 0) (v := ?_) rfl rfl (by kernel_rfl) (by kernel_rfl) (by kernel_rfl) (by kernel_rfl) (fun _ _ _ h => h) (by rfl) ?_ hS0 ?_
          rotate_left 1
          · intro w' hSw; (try dsimp only [BS] at hSw); go_simp; (try with_reducible rfl)
          simp only [Act.put, List.getElem_toArray, List.getElem_cons_succ, List.getElem_cons_zero, List.setIfInBounds_toArray, List.set_cons_zero, List.set_cons_succ]
          refine wpAnyG_take (i := 1) (v := ?_) rfl rfl (by kernel_rfl) (by kernel_rfl) (by kernel_rfl) (by kernel_rfl) (fun _ _ _ h => h) (by rfl) ?_ hS0 ?_
          rotate_left 1
          · intro w' hSw; (try dsimp only [BS] at hSw); go_simp; (try with_reducible rfl)
          simp only [Act.put, List.getElem_toArray, List.getElem_cons_succ, List.getElem_cons_zero, List.setIfInBounds_toArray, List.set_cons_zero, List.set_cons_succ]
          refine wpAnyG_take (i := 2) (v := ?_) rfl rfl (by kernel_rfl) (by kernel_rfl) (by kernel_rfl) (by kernel_rfl) (fun _ _ _ h => h) (by rfl) ?_ hS0 ?_
          rotate_left 1
          · intro w' hSw; (try dsimp only [BS] at hSw); go_simp; (try with_reducible rfl)
          simp only [Act.put, List.getElem_toArray, List.getElem_cons_succ, List.getElem_cons_zero, List.setIfInBounds_toArray, List.set_cons_zero, List.set_cons_succ]
          refine wpAnyG_take (i := 3) (v := ?_) rfl rfl (by kernel_rfl) (by kernel_rfl) (by kernel_rfl) (by kernel_rfl) (fun _ _ _ h => h) (by rfl) ?_ hS0 ?_
          rotate_left 1
          · intro w' hSw; (try dsimp only [BS] at hSw); go_simp; (try with_reducible rfl)
          simp only [Act.put, List.getElem_toArray, List.getElem_cons_succ, List.getElem_cons_zero, List.setIfInBounds_toArray, List.set_cons_zero, List.set_cons_succ]
          refine wpAnyG_take (i := 4) (v := ?_) rfl rfl (by kernel_rfl) (by kernel_rfl) (by kernel_rfl) (by kernel_rfl) (fun _ _ _ h => h) (by rfl) ?_ hS0 ?_
          rotate_left 1
          · intro w' hSw; (try dsimp only [BS] at hSw); go_simp; (try with_reducible rfl)
          simp only [Act.put, List.getElem_toArray, List.getElem_cons_succ, List.getElem_cons_zero, List.setIfInBounds_toArray, List.set_cons_zero, List.set_cons_succ]
          refine wpAnyG_take (i := 5) (v := ?_) rfl rfl (by kernel_rfl) (by kernel_rfl) (by kernel_rfl) (by kernel_rfl) (fun _ _ _ h => h) (by rfl) ?_ hS0 ?_
          rotate_left 1
          · intro w' hSw; (try dsimp only [BS] at hSw); go_simp; (try with_reducible rfl)
          simp only [Act.put, List.getElem_toArray, List.getElem_cons_succ, List.getElem_cons_zero, List.setIfInBounds_toArray, List.set_cons_zero, List.set_cons_succ]
          refine wpAnyG_take (i := 6) (v := ?_) rfl rfl (by kernel_rfl) (by kernel_rfl) (by kernel_rfl) (by kernel_rfl) (fun _ _ _ h => h) (by rfl) ?_ hS0 ?_
          rotate_left 1
          · intro w' hSw; (try dsimp only [BS] at hSw); go_simp; (try with_reducible rfl)
          simp only [Act.put, List.getElem_toArray, List.getElem_cons_succ, List.getElem_cons_zero, List.setIfInBounds_toArray, List.set_cons_zero, List.set_cons_succ]
          refine wpAnyG_take (i := 7) (v := ?_) rfl rfl (by kernel_rfl) (by kernel_rfl) (by kernel_rfl) (by kernel_rfl) (fun _ _ _ h => h) (by rfl) ?_ hS0 ?_
          rotate_left 1
          · intro w' hSw; (try dsimp only [BS] at hSw); go_simp; (try with_reducible rfl)
          simp only [Act.put, List.getElem_toArray, List.getElem_cons_succ, List.getElem_cons_zero, List.setIfInBounds_toArray, List.set_cons_zero, List.set_cons_succ]
          refine wpAnyG_take (i := 8) (v := ?_) rfl rfl (by kernel_rfl) (by kernel_rfl) (by kernel_rfl) (by kernel_rfl) (fun _ _ _ h => h) (by rfl) ?_ hS0 ?_
          rotate_left 1
          · intro w' hSw; (try dsimp only [BS] at hSw); go_simp; (try with_reducible rfl)
          simp only [Act.put, List.getElem_toArray, List.getElem_cons_succ, List.getElem_cons_zero, List.setIfInBounds_toArray, List.set_cons_zero, List.set_cons_succ]
          refine wpAnyG_take (i := 9) (v := ?_) rfl rfl (by kernel_rfl) (by kernel_rfl) (by kernel_rfl) (by kernel_rfl) (fun _ _ _ h => h) (by rfl) ?_ hS0 ?_
          rotate_left 1
          · intro w' hSw; (try dsimp only [BS] at hSw); go_simp; (try with_reducible rfl)
          simp only [Act.put, List.getElem_toArray, List.getElem_cons_succ, List.getElem_cons_zero, List.setIfInBounds_toArray, List.set_cons_zero, List.set_cons_succ]
          refine wpAnyG_take (i := 10) (v := ?_) rfl rfl (by kernel_rfl) (by kernel_rfl) (by kernel_rfl) (by kernel_rfl) (fun _ _ _ h => h) (by rfl) ?_ hS0 ?_
          rotate_left 1
          · intro w' hSw; (try dsimp only [BS] at hSw); go_simp; (try with_reducible rfl)
          simp only [Act.put, List.getElem_toArray, List.getElem_cons_succ, List.getElem_cons_zero, List.setIfInBounds_toArray, List.set_cons_zero, List.set_cons_succ]
          refine wpAnyG_take (i := 11) (v := ?_) rfl rfl (by kernel_rfl) (by kernel_rfl) (by kernel_rfl) (by kernel_rfl) (fun _ _ _ h => h) (by rfl) ?_ hS0 ?_
          rotate_left 1
          · intro w' hSw; (try dsimp only [BS] at hSw); go_simp; (try with_reducible rfl)
          simp only [Act.put, List.getElem_toArray, List.getElem_cons_succ, List.getElem_cons_zero, List.setIfInBounds_toArray, List.set_cons_zero, List.set_cons_succ]
          refine wpAnyG_take (i := 12) (v := ?_) rfl rfl (by kernel_rfl) (by kernel_rfl) (by kernel_rfl) (by kernel_rfl) (fun _ _ _ h => h) (by rfl) ?_ hS0 ?_
          rotate_left 1
          · intro w' hSw; (try dsimp only [BS] at hSw); go_simp; (try with_reducible rfl)
          simp only [Act.put, List.getElem_toArray, List.getElem_cons_succ, List.getElem_cons_zero, List.setIfInBounds_toArray, List.set_cons_zero, List.set_cons_succ]
          refine wpAnyG_take (i := 13) (v := ?_) rfl rfl (by kernel_rfl) (by kernel_rfl) (by kernel_rfl) (by kernel_rfl) (fun _ _ _ h => h) (by rfl) ?_ hS0 ?_
          rotate_left 1
          · intro w' hSw; (try dsimp only [BS] at hSw); go_simp; (try with_reducible rfl)
          simp only [Act.put, List.getElem_toArray, List.getElem_cons_succ, List.getElem_cons_zero, List.setIfInBounds_toArray, List.set_cons_zero, List.set_cons_succ]
          refine wpAnyG_ready (rs := [14]) (by kernel_rfl) (by simp) (AllReadyG.cons rfl (fun K14 hK14 => ?_) AllReadyG.nil)
          refine step_callw (by rfl) 11 _ (by go_simp) ((HRM.out wr.drew b1).mono ?_)
          rintro e w4 ⟨bv, rfl, hbv, b2⟩
          refine ⟨_, rfl, ?_⟩
          have b3 := b1.trans b2
          replace hS0 := BS.keep hS0 (b2.mono b1.size) hbl la lb
          refine hK14.out _ _ (fun _ => hS0) ?_
          simp only [Act.put, List.getElem_toArray, List.getElem_cons_succ, List.getElem_cons_zero, List.setIfInBounds_toArray, List.set_cons_zero, List.set_cons_succ]
          refine wpAnyG_ready (rs := [15]) (by kernel_rfl) (by simp) (AllReadyG.cons rfl (fun K15 hK15 => ?_) AllReadyG.nil)
          refine step_callw (by rfl) 10 _ (by go_simp) ((wordSame_calls act d kva kvb bv w4 (HX.out.1.below b3) (HX.out.2.1.below b3) HX.out.2.2.1 hbv).mono ?_)
          rintro e w5 ⟨rfl, b4⟩
          refine ⟨_, rfl, ?_⟩
          have b5 := b3.trans (b4.mono b3.size)
          replace hS0 := BS.keep hS0 (b4.mono b3.size) hbl la lb
          refine hK15.out _ _ (fun _ => hS0) ?_
          simp only [Act.put, List.getElem_toArray, List.getElem_cons_succ, List.getElem_cons_zero, List.setIfInBounds_toArray, List.set_cons_zero, List.set_cons_succ]
          refine wpAnyG_take (i := 16) (v := ?_) rfl rfl (by kernel_rfl) (by kernel_rfl) (by kernel_rfl) (by kernel_rfl) (fun _ _ _ h => h) (by rfl) ?_ hS0 ?_
          rotate_left 1
          · intro w' hSw; (try dsimp only [BS] at hSw); go_simp; (try with_reducible rfl)
          simp only [Act.put, List.getElem_toArray, List.getElem_cons_succ, List.getElem_cons_zero, List.setIfInBounds_toArray, List.set_cons_zero, List.set_cons_succ]
          refine wpAnyG_done (by kernel_rfl) ?_ _
          have HE := Lib.hid (show Below w3.heap.size w3 w5 from HK.out.trans (b5.mono HK.out.size))
          clear b1 b2 b3 b4 b5 hS0 q0 qa0 qa1 qa2 qa3 qb0 qb1 qb2 qb3 hbv
          go_wp2_with fail
          exact ⟨⟨j + 1, by omega, by go_num, HE⟩, by simp [intOf]; omega⟩
        · have hlt' : ¬ (j : Int) < (k : Int) := by omega
          go_wp2_with fail
          go_ret
          exact ⟨rfl, HB3.out.trans (HK.out.mono HB3.out.size)⟩
end Go.Proofs.Ytlpcddmcddenfaa.Kp
