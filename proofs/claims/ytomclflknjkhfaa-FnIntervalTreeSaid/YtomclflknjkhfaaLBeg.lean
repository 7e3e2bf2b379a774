/- laws.FnIntervalBegin. -/
import Derived.Test.YtomclflknjkhfaaLSp
namespace Go.Proofs.Ytomclflknjkhfaa
open Go.RowKit ItP

set_option maxRecDepth 100000 in
set_option maxHeartbeats 1600000 in
theorem sameFound_calls (d : FoundD) (A1 A2 : Option Addr) (c1 c2 : Nat) (w : World) (h1 : SpSl w (.slice A1 d.all.length c1) d.all) (h2 : SpSl w (.slice A2 d.all.length c2) d.all) (hm : d.all.length ≤ 1000000000000) :
    Calls Try.prog 29 #[.agg #[.int .i64 d.one.lo, .int .i64 d.one.hi, .int .i64 d.one.v, .bool d.ok, .slice A1 d.all.length c1, .int .i64 d.n], .agg #[.int .i64 d.one.lo, .int .i64 d.one.hi, .int .i64 d.one.v, .bool d.ok, .slice A2 d.all.length c2, .int .i64 d.n]] w
      fun e w' => e = .returned (.bool true) ∧ Fr [] w w' := by
  obtain ⟨one, ok, all, n⟩ := d
  obtain ⟨lo, hi, v⟩ := one
  simp only at h1 h2 hm ⊢
  have F1 := Lib.hid ((Fr.alloc [] w (Obj.cells #[.int .i64 lo, .int .i64 hi, .int .i64 v, .bool ok, .slice A1 all.length c1, .int .i64 n] 52)).comp (Fr.alloc [] _ (Obj.cells #[.int .i64 lo, .int .i64 hi, .int .i64 v, .bool ok, .slice A2 all.length c2, .int .i64 n] 52)))
  have HS := Lib.hid (fun w1 (f : Fr [] w w1) => sameSpans_calls w1.heap.size w1.heap.size _ _ all w1 (SpSl.toC (h1.keep (KeepsSp.fr f (by simp)))) (SpSl.toC (h2.keep (KeepsSp.fr f (by simp)))) hm)
  clear h1 h2
  cases ok
  all_goals
    go_enter Try.func29, Try.ntmps29
    go_wp2_with fail
    refine (HS.out _ F1.out).mono ?_
    rintro e w3 ⟨rfl, n3, rfl⟩
    go_wp2_with fail
    go_ret
    exact ⟨rfl, F1.out.comp (Fr.drewN _ _ _)⟩
theorem Founds.form {w : World} {B : Nat} {v : Value} {ds : List FoundD} (h : Founds w B v ds) : ∃ A c, v = .slice A ds.length c := by
  obtain ⟨cs, ho, _⟩ := h
  exact own_form ho
/-- a row that tells ds, at a place. -/
theorem Founds.at_ {w : World} {B n c : Nat} {A : Option Addr} {ds : List FoundD} (h : Founds w B (.slice A n c) ds) {i : Nat} {d : FoundD} (hi : ds[i]? = some d) : ∃ g ka kc, A = some ⟨g, 0, none⟩ ∧ B ≤ g ∧ g < w.heap.size ∧ ds.length ≤ c ∧
    w.cell? ⟨g, i * 6, none⟩ = some (.int .i64 d.one.lo) ∧ w.cell? ⟨g, i * 6 + 1, none⟩ = some (.int .i64 d.one.hi) ∧ w.cell? ⟨g, i * 6 + 2, none⟩ = some (.int .i64 d.one.v) ∧ w.cell? ⟨g, i * 6 + 3, none⟩ = some (.bool d.ok) ∧ w.cell? ⟨g, i * 6 + 4, none⟩ = some (.slice ka d.all.length kc) ∧ w.cell? ⟨g, i * 6 + 5, none⟩ = some (.int .i64 d.n) ∧
    SpSl w (.slice ka d.all.length kc) d.all := by
  obtain ⟨cs, ho, ht⟩ := h
  obtain ⟨ka, kc, g0, g1, g2, g3, g4, g5, g6⟩ := ht.at_ hi
  rcases ho.2 with ⟨e, h0⟩ | ⟨g, cap, cur, e, h1, h2, h3, _⟩
  · have := List.length_eq_zero_iff.1 h0
    subst this
    simp at hi
  · cases e
    have hc : ∀ j u, cs[j]? = some u → w.cell? ⟨g, j, none⟩ = some u := by
      intro j u hj
      have := ho.cells (g := g) rfl j u hj
      rwa [show (⟨g, 0, none⟩ : Addr).add j = ⟨g, j, none⟩ by unfold Addr.add; split <;> simp_all] at this
    exact ⟨g, ka, kc, rfl, h1, (Array.getElem?_eq_some_iff.1 h2).1, h3, hc _ _ g0, hc _ _ g1, hc _ _ g2, hc _ _ g3, hc _ _ g4, hc _ _ g5, g6⟩
theorem mark_take {w : World} {B n c k : Nat} {A : Option Addr} {l : List MarkD} (h : SlC 4 markCell w B (.slice A n c) l) (hk : k ≤ l.length) : SlC 4 markCell w B (.slice A k c) (l.take k) := by
  obtain ⟨A', cap, e, h⟩ := h.is
  cases e
  refine ⟨⟨A, c, by rw [List.length_take, Nat.min_eq_left hk], ?_⟩⟩
  rcases h with rfl | ⟨b, off, rfl, h1, h3, h4, h5⟩
  · exact .inl (by simp)
  · refine .inr ⟨b, off, rfl, by rw [List.length_take]; omega, h3, h4, fun i a hi j u hj => h5 i a ?_ j u hj⟩
    rw [List.getElem?_take] at hi
    split at hi
    · exact hi
    · cases hi
theorem runI_take (l : List MarkD) (k : Nat) (hk : k ≤ l.length) (t : IT) : (runI t (l.take k)).2 = (runI t l).2.take k := by
  have e : (runI t l).2 = (runI t (l.take k)).2 ++ (runI (runI t (l.take k)).1 (l.drop k)).2 := by
    have := congrArg Prod.snd (runI_append t (l.take k) (l.drop k))
    rwa [List.take_append_drop] at this
  have hlen : (runI t (l.take k)).2.length = k := by rw [runI_len, List.length_take, Nat.min_eq_left hk]
  rw [e, List.take_append_of_le_length (Nat.le_of_eq hlen.symm), List.take_of_length_le (Nat.le_of_eq hlen)]
/-- which part a number cuts off. -/
theorem cut_at (cut : Int) (n : Nat) : ∃ k : Nat, k ≤ n ∧ (cut.tmod ((n : Int) + 1) + n + 1).tmod ((n : Int) + 1) = (k : Int) ∧ -((n : Int) + 1) < cut.tmod ((n : Int) + 1) ∧ cut.tmod ((n : Int) + 1) < (n : Int) + 1 := by
  have h1 : cut.tmod ((n : Int) + 1) < (n : Int) + 1 := Int.tmod_lt_of_pos _ (by omega)
  have h2 : -((n : Int) + 1) < cut.tmod ((n : Int) + 1) := by
    have := Int.tmod_lt_of_pos (-cut) (show (0 : Int) < (n : Int) + 1 by omega)
    rw [Int.neg_tmod] at this; omega
  have h3 : 0 ≤ (cut.tmod ((n : Int) + 1) + n + 1).tmod ((n : Int) + 1) := Int.tmod_nonneg _ (by omega)
  have h4 : (cut.tmod ((n : Int) + 1) + n + 1).tmod ((n : Int) + 1) < (n : Int) + 1 := Int.tmod_lt_of_pos _ (by omega)
  exact ⟨((cut.tmod ((n : Int) + 1) + n + 1).tmod ((n : Int) + 1)).toNat, by omega, by omega, h2, h1⟩
set_option maxRecDepth 100000 in
set_option maxHeartbeats 3200000 in
theorem intervalBegin_calls (lv : Value) (l : List MarkD) (cut : Int) (w : World) (hl : SlC 4 markCell w w.heap.size lv l) :
    Calls Try.prog 9 #[lv, .int .i64 cut] w fun e w' => e = .returned (.bool true) ∧ Below w.heap.size w w' := by
  obtain ⟨A3, c3, rfl⟩ := hl.form
  have HL := Lib.hid hl
  clear hl
  by_cases b3 : (l.length : Int) ≤ 2147483647
  case neg =>
    go_enter Try.func9, Try.ntmps9
    go_wp2
    go_ret
    exact ⟨rfl, Below.refl _ _⟩
  have HP := Lib.hid (proper_calls w.heap.size _ l w HL.out (by omega))
  obtain ⟨k, hk, e1, e2, e3⟩ := cut_at cut l.length
  go_enter Try.func9, Try.ntmps9
  go_wp2_with fail
  refine HP.out.mono ?_
  rintro e w1 ⟨q, rfl, hq, n1, rfl⟩
  cases q
  case false =>
    go_wp2_with fail
    go_ret
    exact ⟨rfl, Below.drewN _ _⟩
  have hp := hq rfl
  have HPL := Lib.hid hp
  clear hq hp
  go_wp2_with fail
  have hkc : (k : Int) ≤ (c3 : Int) := by
    obtain ⟨A', cap, e, h⟩ := HL.out.is
    cases e
    rcases h with rfl | ⟨_, _, _, h1, _⟩
    · simp at hk; omega
    · omega
  have hk0 : (0 : Int) ≤ (k : Int) := by omega
  have HW := Lib.hid (show Below w.heap.size w (w.drewN n1) from Below.drewN _ _)
  generalize w.drewN n1 = w1 at HW ⊢
  have HC1 := Lib.hid (fun w2 (h : Below w.heap.size w w2) => intervalRun_calls _ l w2 ((HL.out.below h).mono h.size) (by omega) HPL.out)
  have HC2 := Lib.hid (fun w2 (h : Below w.heap.size w w2) => intervalRun_calls _ (l.take k) w2 ((mark_take (HL.out.below h) hk).mono h.size) (by rw [List.length_take]; omega) (fun a ha => HPL.out a (List.mem_of_mem_take ha)))
  have HKL := Lib.hid (show (runI .nil (l.take k)).2.length = k by rw [runI_len, List.length_take, Nat.min_eq_left hk])
  have t0 : ((k : Int) != k) = false := bne_self_eq_false _
  have t1 : ((l.length : Int) != l.length) = false := bne_self_eq_false _
  clear e1 e2 e3
  go_region_with (first
    | (go_at_call_of 28 (Value.slice A3 l.length c3); refine (HC1.out _ (HW.out.trans (Below.drewN _ 1))).mono ?_; rintro e w2 ⟨v2, rfl, s2, hb2⟩; obtain ⟨A4, c4, rfl⟩ := s2.form; rw [runI_len]; have HB2 := Lib.hid ((HW.out.trans (Below.drewN _ 1)).trans (hb2.mono (by have := HW.out.size; simp; omega))); have HS2 := Lib.hid s2; clear s2 hb2)
    | (go_at_call 28; refine (HC2.out _ HB2.out).mono ?_; rintro e w3 ⟨v3, rfl, s3, hb3⟩; obtain ⟨A5, c5, rfl⟩ := s3.form; rw [HKL.out]; have HB3 := Lib.hid (HB2.out.trans (hb3.mono HB2.out.size)); have HS3 := Lib.hid (And.intro s3 (HS2.out.below hb3)); clear s3 hb3))
  all_goals
    go_wp2_with fail
    clear t0 t1
    go_loopw [8] (fun i wr => ∃ j : Nat, j ≤ k ∧ i = .int .i64 (j : Nat) ∧ Hid (Below w3.heap.size w3 wr)) (fun i _ => k - (intOf i).toNat)
    case atStart => exact ⟨0, Nat.zero_le _, rfl, (show Below w3.heap.size w3 w3 from Below.refl _ _)⟩
    case round =>
      obtain ⟨j, hj, rfl, HK⟩ := hrel
      by_cases hlt : j < k
      · obtain ⟨d, hd⟩ : ∃ d, (runI .nil l).2[j]? = some d := ⟨_, List.getElem?_eq_getElem (by rw [runI_len]; omega)⟩
        have hd2 : (runI .nil (l.take k)).2[j]? = some d := by rw [runI_take l k hk, List.getElem?_take, if_pos hlt]; exact hd
        have hsz := run_told_len l .nil good_nil d (List.mem_of_getElem? hd)
        simp only [IT.list, List.length_nil] at hsz
        obtain ⟨ga, ka, kac, rfl, _, la, ha0, qa0, qa1, qa2, qa3, qa4, qa5, sa⟩ := (HS3.out.2.below HK.out).at_ hd
        obtain ⟨gb, kb, kbc, rfl, _, lb, hb0, qb0, qb1, qb2, qb3, qb4, qb5, sb⟩ := (HS3.out.1.below HK.out).at_ hd2
        have HF := Lib.hid (And.intro sa sb)
        have HN := Lib.hid hsz
        have p3 : (0 : Int) ≤ (j : Int) := by omega
        have p4 : (j : Int) < (l.length : Int) := by omega
        clear hd hd2 sa sb ha0 hb0 hsz
        go_wp2_with fail
        go_region_with (go_at_call 29; refine (sameFound_calls d _ _ _ _ _ (by exact HF.out.1.keep (KeepsSp.fr (Fr.drewN [] _ 1) (by simp))) (by exact HF.out.2.keep (KeepsSp.fr (Fr.drewN [] _ 1) (by simp))) (by have := HN.out; omega)).mono ?_; rintro e w4 ⟨rfl, f4⟩; have HE := Lib.hid (show Below w3.heap.size w3 w4 from HK.out.trans (((Fr.drewN [] wr 1).comp f4).below (by simp) HK.out.size)); clear f4)
        all_goals
          go_wp2_with fail
          exact ⟨⟨j + 1, by omega, by go_num, HE⟩, by simp [intOf]; omega⟩
      · go_wp2_with fail
        go_ret
        exact ⟨rfl, HB3.out.trans (HK.out.mono HB3.out.size)⟩
end Go.Proofs.Ytomclflknjkhfaa
