/- spec.Meet, Spans.Over; what spanLast tells. -/
import Derived.Test.YtomclflknjkhfaaLSpan
namespace Go.Proofs.Ytomclflknjkhfaa
open Go.RowKit ItP

theorem meetSpan_calls (lo hi v a b : Int) (w : World) : Calls Try.prog 45 #[.agg #[.int .i64 lo, .int .i64 hi, .int .i64 v], .int .i64 a, .int .i64 b] w fun e w' => e = .returned (.bool (decide (lo < b) && decide (a < hi))) ∧ Fr [] w w' := by
  have HF := Lib.hid (Fr.alloc [] w (Obj.cells #[.int .i64 lo, .int .i64 hi, .int .i64 v] 46))
  by_cases c1 : lo < b
  · by_cases c2 : a < hi
    · rw [decide_eq_true c1, decide_eq_true c2]
      go_enter Try.func45, Try.ntmps45
      go_wp2
      go_ret
      exact ⟨rfl, HF.out⟩
    · rw [decide_eq_true c1, decide_eq_false c2]
      go_enter Try.func45, Try.ntmps45
      go_wp2
      go_ret
      exact ⟨rfl, HF.out⟩
  · rw [decide_eq_false c1]
    go_enter Try.func45, Try.ntmps45
    go_wp2
    go_ret
    exact ⟨rfl, HF.out⟩
theorem filter_take {xs : List Sp} {k : Nat} {s : Sp} (p : Sp → Bool) (hs : xs[k]? = some s) : (xs.take (k + 1)).filter p = if p s then (xs.take k).filter p ++ [s] else (xs.take k).filter p := by
  obtain ⟨hlt, e⟩ := List.getElem?_eq_some_iff.1 hs
  rw [List.take_succ_eq_append_getElem hlt, e, List.filter_append]
  cases hp : p s <;> simp [hp]
set_option maxRecDepth 100000 in
set_option maxHeartbeats 3200000 in
theorem specOver_calls (v : Value) (xs : List Sp) (a b : Int) (w : World) (h : SlC 3 spC w w.heap.size v xs) (hx : xs.length ≤ 10000000000) :
    Calls Try.prog 30 #[v, .int .i64 a, .int .i64 b] w fun e w' => ∃ v', e = .returned v' ∧ w'.ownsRow w.heap.size 46 3 v' (xs.filter (fun s => meet s a b)).length ((xs.filter (fun s => meet s a b)).flatMap spC) ∧ Below w.heap.size w w' := by
  obtain ⟨i0, hi0, hz0, hz1, hz2⟩ := info_parts Try.infoSpan
  obtain ⟨A1, c1, rfl⟩ := h.form
  have HX := Lib.hid h
  have HO := Lib.hid (show w.ownsRow w.heap.size 46 3 (.slice none 0 0) ([] : List Sp).length (([] : List Sp).flatMap spC) ∧ Below w.heap.size w w from ⟨World.ownsRow_nil _ _ _ _, Below.refl _ _⟩)
  clear h
  go_enter Try.func30, Try.ntmps30
  go_wp2_with fail
  go_loopw [7, 8] (fun u i wr => ∃ (k : Nat) (ys : List Sp), k ≤ xs.length ∧ i = .int .i64 (k : Nat) ∧ Hid (ys = (xs.take k).filter (fun s => meet s a b)) ∧ Hid (wr.ownsRow w.heap.size 46 3 u ys.length (ys.flatMap spC) ∧ Below w.heap.size w wr)) (fun _ i _ => xs.length - (intOf i).toNat)
  case atStart => exact ⟨0, [], Nat.zero_le _, rfl, rfl, HO⟩
  case round =>
    obtain ⟨k, ys, hk, rfl, HY, HK⟩ := hrel
    by_cases hlt : k < xs.length
    · obtain ⟨b1, o1, s, rfl, _, g3, g4, g1, z1⟩ := HX.out.at_ hlt
      have hyl : ys.length ≤ xs.length := by rw [HY.out]; exact Nat.le_trans (List.length_filter_le _ _) (by rw [List.length_take]; omega)
      have hyb : ys.length ≤ 10000000000 := by omega
      have q0 := (HK.out.2.cell (p := ⟨b1, o1 + k * 3, none⟩) g3).trans (z1 0 _ rfl)
      have q1 := (HK.out.2.cell (p := ⟨b1, o1 + k * 3 + 1, none⟩) g3).trans (z1 1 _ rfl)
      have q2 := (HK.out.2.cell (p := ⟨b1, o1 + k * 3 + 2, none⟩) g3).trans (z1 2 _ rfl)
      have p3 : (0 : Int) ≤ (k : Int) := by omega
      have p4 : (k : Int) < (xs.length : Int) := by omega
      have hft := filter_take (fun s => meet s a b) g1
      rw [← HY.out] at hft
      obtain ⟨q, hq⟩ : ∃ q, q = (decide (s.lo < b) && decide (a < s.hi)) := ⟨_, rfl⟩
      have hms : meet s a b = q := hq.symm
      have M := fun w1 => (meetSpan_calls s.lo s.hi s.v a b w1)
      rw [← hq] at M
      have M := Lib.hid M
      simp only [hms] at hft
      have HFT := Lib.hid hft
      obtain ⟨Au, cu, rfl⟩ := own_form HK.out.1
      have HQ := Lib.hid (And.intro q0 (And.intro q1 q2))
      clear g1 z1 hq hms hft hyl
      cases q with
      | true =>
        go_wp2_with fail
        refine (M.out _).mono ?_
        rintro e w4 ⟨rfl, f4⟩
        have r0 := f4.cell HQ.out.1 (by simp)
        have r1 := f4.cell HQ.out.2.1 (by simp)
        have r2 := f4.cell HQ.out.2.2 (by simp)
        have H4 := Lib.hid (And.intro (own_fr HK.out.1 f4 (by simp)) (HK.out.2.trans (f4.below (by simp) HK.out.2.size)))
        clear q0 q1 q2 f4
        go_wp2_with (at_builtin; refine wpList_append_own _ rfl (.tmp 22) (.tmp 27) 50 rfl w.heap.size 46 i0 _ 3 24 Try.underlying50 hi0 hz0 hz1 hz2 rfl (by omega) (.slice Au ys.length cu) ys.length _ rfl (H4.out.1.alloc _) ⟨w4.heap.size, 0, none⟩ 1 1 (spC s) rfl rfl (news_blk (Blk.new w4 _ _)) (by simp [spC, Value.oneCell']) (by unfold maxLen; omega) (by omega) (by have := H4.out.2.size; simp; omega) ?_; intro v' w5 hown' hgrow _)
        have e1 : ys ++ [s] = (xs.take (k + 1)).filter (fun s => meet s a b) := by rw [HFT.out]; rfl
        exact ⟨⟨k + 1, ys ++ [s], by omega, by go_num, e1, ⟨by rw [List.length_append, List.flatMap_append]; simpa using hown', (H4.out.2.alloc H4.out.2.size _).grown hgrow (by have := H4.out.2.size; simp; omega) (fun g hg => (H4.out.1.lt g hg).1)⟩⟩, by simp [intOf]; omega⟩
      | false =>
        go_wp2_with fail
        refine (M.out _).mono ?_
        rintro e w4 ⟨rfl, f4⟩
        have H4 := Lib.hid (And.intro (own_fr HK.out.1 f4 (by simp)) (HK.out.2.trans (f4.below (by simp) HK.out.2.size)))
        clear q0 q1 q2 f4
        go_wp2_with fail
        have e1 : ys = (xs.take (k + 1)).filter (fun s => meet s a b) := by rw [HFT.out]; rfl
        exact ⟨⟨k + 1, ys, by omega, by go_num, e1, H4⟩, by simp [intOf]; omega⟩
    · obtain ⟨Au, cu, rfl⟩ := own_form HK.out.1
      go_wp2_with fail
      go_ret
      have e1 : ys = xs.filter (fun s => meet s a b) := by rw [HY.out, List.take_of_length_le (by omega)]
      rw [← e1]
      exact ⟨_, rfl, HK.out.1, HK.out.2⟩
theorem last_one (l : List MarkD) (a : MarkD) : lastD (l ++ [a]) = toldI a (runI .nil l).1 := by
  unfold lastD
  rw [runI_snoc]
  simp
theorem last_two (l : List MarkD) (a b : MarkD) : lastD (l ++ [a, b]) = toldI b (nextI a 0 (runI .nil l).1) := by
  rw [show l ++ [a, b] = (l ++ [a]) ++ [b] by simp, last_one, runI_snoc]
theorem one_mark (w : World) (a : MarkD) : SlC 4 markCell (w.alloc (Obj.cells #[.int .i64 a.act, .int .i64 a.lo, .int .i64 a.hi, .int .i64 a.val] 49)) (w.alloc (Obj.cells #[.int .i64 a.act, .int .i64 a.lo, .int .i64 a.hi, .int .i64 a.val] 49)).heap.size (.slice (some ⟨w.heap.size, 0, none⟩) 1 1) [a] := by
  refine ⟨⟨_, 1, rfl, .inr ⟨w.heap.size, 0, rfl, by simp, by simp, by simp, fun i b hi j u hj => ?_⟩⟩⟩
  cases i with
  | succ i => simp at hi
  | zero =>
    simp at hi; subst hi
    have := (Blk.new w #[.int .i64 a.act, .int .i64 a.lo, .int .i64 a.hi, .int .i64 a.val] 49).cell j
    rw [show 0 + 0 * 4 + j = j by omega, this]
    rw [← hj]; simp [markCell]
theorem spanLast_at (lv mv : Value) (l m : List MarkD) (w : World) (hl : SlC 4 markCell w w.heap.size lv l) (hln : ∀ n c, lv = .slice none n c → n = 0 ∧ c = 0) (hm : SlC 4 markCell w w.heap.size mv m) (hmn : ∀ n c, mv = .slice none n c → n = 0 ∧ c = 0)
    (hll : l.length ≤ 3000000000) (hmm : m.length ≤ 3000000000) (h0 : 0 < m.length) (hp : PropL (l ++ m)) {x y z n : Int} {ok : Bool} {all : List Sp} (hd : lastD (l ++ m) = ⟨⟨x, y, z⟩, ok, all, n⟩) :
    Calls Try.prog 26 #[lv, mv] w fun e w' => ∃ A c, e = .returned (.tuple #[.agg #[.int .i64 x, .int .i64 y, .int .i64 z, .bool ok, .slice A all.length c, .int .i64 n], .bool true]) ∧
      SpSl w' (.slice A all.length c) all ∧ Below w.heap.size w w' := by
  have := spanLast_calls 0 lv mv l m w (Nat.zero_le _) hl hln hm hmn hll hmm h0 hp
  rw [hd] at this
  exact this
theorem prop_one {l : List MarkD} (hp : PropL l) {a : MarkD} (ha : PropA a) : PropL (l ++ [a]) := fun b hb => by
  rcases List.mem_append.1 hb with hb | hb
  · exact hp b hb
  · rw [List.mem_singleton.1 hb]; exact ha
theorem prop_two {l : List MarkD} (hp : PropL l) {a b : MarkD} (ha : PropA a) (hb : PropA b) : PropL (l ++ [a, b]) := by
  rw [show l ++ [a, b] = (l ++ [a]) ++ [b] by simp]
  exact prop_one (prop_one hp ha) hb
end Go.Proofs.Ytomclflknjkhfaa
