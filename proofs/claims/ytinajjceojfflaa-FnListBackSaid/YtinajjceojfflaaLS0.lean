/- spec.mod, spec.Rank and Alike without an order, spec.cut, bagAt, lineAt, lineRow, lineTurned. -/
import Derived.Test.YtinajjceojfflaaLN
import Derived.Test.YtinajjceojfflaaRank
import Derived.Deep.QuietTactic
import Derived.BigQuiet
import Derived.IntWalk
namespace Go.Proofs.Ytinajjceojfflaa.Kp
open Go.RowKit

theorem specMod_calls (k n : Int) (w : World) (h : 0 < n) (h2 : n ≤ 4611686018427387903) :
    Calls Try.prog 43 #[.int .i64 k, .int .i64 n] w fun e w' => e = .returned (.int .i64 (k % n)) ∧ w = w' := by
  have H := Lib.hid (mod_math k n h h2)
  go_enter Try.func43, Try.ntmps43
  go_wp2
  go_ret
  exact ⟨ret_int H.out, rfl⟩
theorem rank0_calls (k : Int) (w : World) : Calls Try.prog 15 #[.slice none 0 0, .int .i64 k] w fun e w' => e = .returned (.int .i64 k) ∧ w = w' := by
  go_enter Try.func15, Try.ntmps15
  go_wp2
  go_ret
  exact ⟨rfl, rfl⟩
theorem alike0_calls (a b : Int) (w : World) : Calls Try.prog 12 #[.slice none 0 0, .int .i64 a, .int .i64 b] w fun e w' => e = .returned (.bool (a == b)) ∧ w = w' := by
  have HA := Lib.hid (rank0_calls a w)
  have HB := Lib.hid (rank0_calls b w)
  go_enter Try.func12, Try.ntmps12
  go_wp2_with fail
  refine HA.out.mono ?_
  rintro e w1 ⟨rfl, rfl⟩
  go_wp2_with fail
  refine HB.out.mono ?_
  rintro e w1 ⟨rfl, rfl⟩
  go_wp2
  go_ret
  exact ⟨rfl, rfl⟩
/-- what put and cut leave: a row of one's own. -/
def Row1 (w : World) (xs : List Int) (e : Ending) (w' : World) : Prop := ∃ v, e = .returned v ∧ w'.ownsRow w.heap.size 3 1 v xs.length (xs.map i64v) ∧ Below w.heap.size w w'
set_option maxRecDepth 100000 in
set_option maxHeartbeats 1600000 in
theorem cut_calls (xs : List Int) (lv : Value) (i : Nat) (w : World) (hl : NS w lv xs) (hi : i < xs.length) (hn : xs.length ≤ 100000000000) :
    Calls Try.prog 28 #[lv, .int .i64 i] w (Row1 w (xs.take i ++ xs.drop (i + 1))) := by
  obtain ⟨i0, hi0, hz0, hz1, hz2⟩ := info_parts Try.infoInt
  have hdl : (xs.drop (i + 1)).length = xs.length - (i + 1) := List.length_drop
  have htl : (xs.take i).length = i := by rw [List.length_take]; omega
  have hparts : ∃ (b off c : Nat) (A2 : Option Addr), lv = .slice (some ⟨b, off, none⟩) xs.length c ∧ NS w (.slice (some ⟨b, off, none⟩) i c) (xs.take i) ∧ NS w (.slice A2 (xs.length - (i + 1)) (c - (i + 1))) (xs.drop (i + 1)) ∧
      (xs.length ≤ c ∧ c ≤ 9223372036854775807 ∧ (c = i + 1 ∧ A2 = some ⟨b, off, none⟩ ∨ (c = i + 1) = False ∧ i + 1 < c ∧ A2 = some ⟨b, off + (i + 1), none⟩)) := by
    rcases hl.is with ⟨e, rfl⟩ | ⟨b, off, c', cur, e, h1, h2, h3, h4⟩
    · simp at hi
    · subst e
      by_cases hc : c' = i + 1
      · subst hc
        refine ⟨b, off, i + 1, some ⟨b, off, none⟩, rfl, hl.take (by omega), ?_, h1, h2, .inl ⟨rfl, rfl⟩⟩
        have := hl.drop_all (i := i + 1) (by omega)
        rw [show xs.length - (i + 1) = 0 by omega, Nat.sub_self]
        exact this
      · exact ⟨b, off, c', some ⟨b, off + (i + 1), none⟩, rfl, hl.take (by omega), hl.drop (by omega), h1, h2, .inr ⟨eq_false hc, by omega, rfl⟩⟩
  obtain ⟨b, off, c, A2, rfl, p1, p2, h1, h2, hw⟩ := hparts
  have P1 := Lib.hid p1.sl
  have P2 := Lib.hid p2.sl
  have N1 := Lib.hid p1.hnone
  have N2 := Lib.hid p2.hnone
  have HD := Lib.hid hdl
  have HT := Lib.hid htl
  clear p1 p2 hl hdl htl
  generalize xs.take i = t1 at *
  generalize xs.drop (i + 1) = t2 at *
  generalize xs.length = n at *
  have O1 := Lib.hid (own_mt w 3 1)
  have B0 : Below w.heap.size w (w.alloc (.cells #[] 3)) := (Below.refl _ w).alloc (Nat.le_refl _) _
  have ew : IntKind.i64.wrap ((i : Int) + 1) = ((i + 1 : Nat) : Int) := by rw [show ((i + 1 : Nat) : Int) = (i : Int) + 1 by omega]; exact IntWalk.i64_in _ (by omega)
  rcases hw with ⟨rfl, rfl⟩ | ⟨hc, h3, rfl⟩
  case' inl =>
    obtain rfl : n = i + 1 := by omega
    rw [Nat.sub_self] at P2 N2 HD
  all_goals
    go_enter Try.func28, Try.ntmps28
    go_wp2_with (at_builtin; first
      | (refine wpList_append_C num1_len _ rfl (.tmp 6) (.tmp 9) 22 rfl w.heap.size 3 i0 _ 8 Try.underlying22 hi0 hz0 hz1 hz2 rfl (by omega) _ 0 [] rfl O1.out _ t1 rfl (P1.out.below B0) N1.out (by intro a; simp [num1, Value.oneCell']) (by unfold maxLen; have := HT.out; omega) (by have := HT.out; omega) B0.size ?_
         intro v1 w1 o1 g1
         have B1 : Below w.heap.size w w1 := B0.grown g1 B0.size (fun g hg => (O1.out.lt g hg).1)
         have z1 := B1.size)
      | (refine wpList_append_C num1_len _ rfl (.tmp 11) (.tmp 15) 22 rfl w.heap.size 3 i0 _ 8 Try.underlying22 hi0 hz0 hz1 hz2 rfl (by omega) v1 (0 + t1.length) _ rfl o1 _ t2 rfl (P2.out.below B1) N2.out (by intro a; simp [num1, Value.oneCell']) (by unfold maxLen; have := HT.out; have := HD.out; omega) (by have := HT.out; have := HD.out; omega) z1 ?_
         intro v3 w3 o3 g3))
    go_ret
    refine ⟨v3, rfl, ?_, B1.grown g3 z1 (fun g hg => (o1.lt g hg).1)⟩
    rw [num1_flat, num1_flat] at o3
    have e1 : (t1 ++ t2).length = 0 + t1.length + t2.length := by simp
    rw [e1, List.map_append]
    exact o3

/-- where a number stands in a row. -/
def findL (xs : List Int) (k : Int) : Int := if k ∈ xs then (xs.idxOf k : Int) else -1
theorem find_at {xs : List Int} {k : Int} {i : Nat} (hi : i < xs.length) (hk : xs.getD i 0 = k) (hn : ∀ j, j < i → xs.getD j 0 ≠ k) : findL xs k = i := by
  have hm : k ∈ xs := by
    rw [List.getD_eq_getElem?_getD, List.getElem?_eq_getElem hi] at hk
    exact hk ▸ List.getElem_mem hi
  unfold findL
  rw [if_pos hm]
  have hl := List.idxOf_lt_length_iff.2 hm
  have hg : xs.getD (xs.idxOf k) 0 = k := by rw [List.getD_eq_getElem?_getD, List.getElem?_eq_getElem hl, List.getElem_idxOf hl]; rfl
  have h1 : ¬ xs.idxOf k < i := fun h => hn _ h hg
  have h2 : ¬ i < xs.idxOf k := fun h => by
    have := List.not_of_lt_findIdx (show i < xs.findIdx (· == k) from h)
    rw [List.getD_eq_getElem?_getD, List.getElem?_eq_getElem hi] at hk
    simp at hk this
    exact this hk
  omega
theorem find_not {xs : List Int} {k : Int} (hn : ∀ j, j < xs.length → xs.getD j 0 ≠ k) : findL xs k = -1 := by
  unfold findL
  rw [if_neg fun hm => ?_]
  obtain ⟨j, hj, e⟩ := List.getElem_of_mem hm
  exact hn j hj (by rw [List.getD_eq_getElem?_getD, List.getElem?_eq_getElem hj]; exact e)
set_option maxHeartbeats 800000 in
theorem bagAt0_calls (xs : List Int) (lv : Value) (k : Int) (w : World) (hl : NS w lv xs) (hn : xs.length ≤ 100000000000) :
    Calls Try.prog 95 #[.slice none 0 0, lv, .int .i64 k] w fun e w' => e = .returned (.int .i64 (findL xs k)) ∧ w = w' := by
  obtain ⟨A, c, rfl⟩ := hl.form
  have HL := Lib.hid hl
  clear hl
  go_enter Try.func95, Try.ntmps95
  go_wp2_with fail
  go_loopw [7] (fun i wr => ∃ j : Nat, j ≤ xs.length ∧ i = .int .i64 (j : Nat) ∧ wr = w ∧ Hid (∀ m, m < j → xs.getD m 0 ≠ k)) (fun i _ => xs.length - (intOf i).toNat)
  case atStart => exact ⟨0, Nat.zero_le _, rfl, rfl, fun m hm => by omega⟩
  case round =>
    obtain ⟨j, hj, rfl, rfl, HK⟩ := hrel
    by_cases hlt : j < xs.length
    · obtain ⟨b, off, rfl, h1, h2, h3, h4⟩ := HL.out.at_ hlt
      have HC := Lib.hid (alike0_calls (xs.getD j 0) k wr)
      obtain ⟨x, hx⟩ : ∃ x, x = xs.getD j 0 := ⟨_, rfl⟩
      rw [← hx] at HC h4
      have HX := Lib.hid hx
      clear hx
      go_wp2_with fail
      refine HC.out.mono ?_
      rintro e w1 ⟨rfl, rfl⟩
      by_cases he : x = k
      · subst he
        have hb : (x == x) = true := by simp
        go_wp2_with fail
        go_ret
        exact ⟨by rw [find_at hlt HX.out.symm HK.out]; rfl, rfl⟩
      · have hb : (x == k) = false := by simpa using he
        go_wp2_with fail
        exact ⟨⟨j + 1, by omega, by go_num, by trivial, fun m hm => by
          rcases Nat.lt_or_ge m j with h | h
          · exact HK.out m h
          · obtain rfl : m = j := by omega
            rw [← HX.out]; exact he⟩, by simp [intOf]; omega⟩
    · obtain rfl : j = xs.length := by omega
      go_wp2_with fail
      go_ret
      exact ⟨by rw [find_not HK.out]; rfl, rfl⟩
theorem lineAt_calls (xs : List Int) (lv : Value) (k : Int) (w : World) (hl : NS w lv xs) (hn : xs.length ≤ 100000000000) :
    Calls Try.prog 82 #[lv, .int .i64 k] w fun e w' => e = .returned (.int .i64 (findL xs k)) ∧ w = w' := by
  have HC := Lib.hid (bagAt0_calls xs lv k w hl hn)
  clear hl
  go_enter Try.func82, Try.ntmps82
  go_wp2_with fail
  refine HC.out.mono ?_
  rintro e w1 ⟨rfl, rfl⟩
  go_wp2
  go_ret
  exact ⟨rfl, rfl⟩
/-- a row of one's own of so many numbers. -/
def RowN (w : World) (n : Nat) (e : Ending) (w' : World) : Prop := ∃ (v : Value) (zs : List Int), e = .returned v ∧ zs.length = n ∧ w'.ownsRow w.heap.size 3 1 v n (zs.map i64v) ∧ Below w.heap.size w w'
set_option maxHeartbeats 1600000 in
set_option maxRecDepth 100000 in
theorem lineRow_calls (vs xs : List Int) (vv lv : Value) (w : World) (hv : NS w vv vs) (hl : NS w lv xs) (hn : xs.length ≤ 100000000000) (hn2 : vs.length ≤ 100000000000) (hx : ∀ x ∈ xs, 0 ≤ x ∧ x < vs.length) :
    Calls Try.prog 85 #[vv, lv] w (RowN w xs.length) := by
  obtain ⟨i0, hi0, hz0, hz1, hz2⟩ := info_parts Try.infoInt
  obtain ⟨A, c, rfl⟩ := hl.form
  obtain ⟨A2, c2, rfl⟩ := hv.form
  have HL := Lib.hid hl
  have HV := Lib.hid hv
  have HX := Lib.hid hx
  clear hl hv hx
  go_enter Try.func85, Try.ntmps85
  go_wp2_with fail
  go_loopw [5, 6] (fun v i wr => ∃ (j : Nat) (zs : List Int), j ≤ xs.length ∧ i = .int .i64 (j : Nat) ∧ Hid (zs.length = j ∧ wr.ownsRow w.heap.size 3 1 v j (zs.map i64v) ∧ Below w.heap.size w wr)) (fun _ i _ => xs.length - (intOf i).toNat)
  case atStart => exact ⟨0, [], Nat.zero_le _, rfl, ⟨rfl, World.ownsRow_nil _ _ _ _, Below.refl _ _⟩⟩
  case round =>
    obtain ⟨j, zs, hj, rfl, HK⟩ := hrel
    by_cases hlt : j < xs.length
    · obtain ⟨b, off, rfl, h1, h2, h3, h4⟩ := (HL.out.below HK.out.2.2).at_ hlt
      obtain ⟨x, hx⟩ : ∃ x, x = xs.getD j 0 := ⟨_, rfl⟩
      have hxm : x ∈ xs := by rw [hx, List.getD_eq_getElem?_getD, List.getElem?_eq_getElem hlt]; exact List.getElem_mem hlt
      obtain ⟨p0, p1⟩ := HX.out x hxm
      rw [← hx] at h4
      obtain ⟨m, rfl⟩ : ∃ m : Nat, x = m := ⟨x.toNat, by omega⟩
      have hml : m < vs.length := by omega
      obtain ⟨b', off', rfl, h1', h2', h3', h4'⟩ := (HV.out.below HK.out.2.2).at_ hml
      generalize vs.getD m 0 = y at h4'
      clear hx hxm
      have hown := HK.out.2.1
      have hsz := HK.out.2.2.size
      go_wp2_with (at_builtin; refine wpList_append_own _ rfl (.tmp 13) (.tmp 21) 22 rfl w.heap.size 3 i0 _ 1 8 Try.underlying22 hi0 hz0 hz1 hz2 rfl (by omega) u5 j _ rfl (hown.alloc _) ⟨wr.heap.size, 0, none⟩ 1 1 [.int .i64 y] rfl rfl (news1 ((Blk.new wr #[.int .i64 y] 3).cell 0)) (by simp [Value.oneCell']) (by unfold maxLen; omega) (by omega) (by simp; omega) ?_; intro v' w1 hown1 hgrow _)
      refine ⟨⟨j + 1, zs ++ [y], by omega, by go_num, ⟨by simp [HK.out.1], ?_, ?_⟩⟩, by simp [intOf]; omega⟩
      · rw [List.map_append]; exact hown1
      · exact (HK.out.2.2.alloc hsz _).grown hgrow (by simp; omega) (fun g hg => (hown.lt g hg).1)
    · obtain rfl : j = xs.length := by omega
      go_wp2_with fail
      go_ret
      exact ⟨u5, zs, rfl, HK.out.1, HK.out.2.1, HK.out.2.2⟩
set_option maxHeartbeats 1600000 in
set_option maxRecDepth 100000 in
theorem lineTurned_calls (xs : List Int) (lv : Value) (w : World) (hl : NS w lv xs) (hn : xs.length ≤ 100000000000) :
    Calls Try.prog 86 #[lv] w (RowN w xs.length) := by
  obtain ⟨i0, hi0, hz0, hz1, hz2⟩ := info_parts Try.infoInt
  obtain ⟨A, c, rfl⟩ := hl.form
  have HL := Lib.hid hl
  clear hl
  have e0 : IntKind.i64.wrap ((xs.length : Int) - 1) = (xs.length : Int) - 1 := IntWalk.i64_in _ (by omega)
  go_enter Try.func86, Try.ntmps86
  go_wp2_with fail
  go_loopw [3, 4] (fun v i wr => ∃ (j : Nat) (zs : List Int), j ≤ xs.length ∧ i = .int .i64 ((j : Int) - 1) ∧ Hid (zs.length + j = xs.length ∧ wr.ownsRow w.heap.size 3 1 v (xs.length - j) (zs.map i64v) ∧ Below w.heap.size w wr)) (fun _ i _ => (intOf i + 1).toNat)
  case atStart => exact ⟨xs.length, [], Nat.le_refl _, by first | rfl | rw [e0], ⟨by simp, by rw [Nat.sub_self]; exact World.ownsRow_nil _ _ _ _, Below.refl _ _⟩⟩
  case round =>
    obtain ⟨j, zs, hj, rfl, HK⟩ := hrel
    rcases j with _ | j
    · have g : (0 ≤ ((0 : Nat) : Int) - 1) = False := eq_false (by omega)
      go_wp2_with fail
      go_ret
      exact ⟨u3, zs, rfl, by simpa using HK.out.1, by simpa using HK.out.2.1, HK.out.2.2⟩
    · have hlt : j < xs.length := by omega
      have ej : ((j + 1 : Nat) : Int) - 1 = (j : Int) := by omega
      rw [ej]
      obtain ⟨b, off, rfl, h1, h2, h3, h4⟩ := (HL.out.below HK.out.2.2).at_ hlt
      generalize xs.getD j 0 = y at h4
      have hown := HK.out.2.1
      have hsz := HK.out.2.2.size
      have ew : IntKind.i64.wrap ((j : Int) - 1) = (j : Int) - 1 := IntWalk.i64_in _ (by omega)
      clear ej
      go_wp2_with (at_builtin; refine wpList_append_own _ rfl (.tmp 12) (.tmp 17) 22 rfl w.heap.size 3 i0 _ 1 8 Try.underlying22 hi0 hz0 hz1 hz2 rfl (by omega) u3 (xs.length - (j + 1)) _ rfl (hown.alloc _) ⟨wr.heap.size, 0, none⟩ 1 1 [.int .i64 y] rfl rfl (news1 ((Blk.new wr #[.int .i64 y] 3).cell 0)) (by simp [Value.oneCell']) (by unfold maxLen; omega) (by omega) (by simp; omega) ?_; intro v' w1 hown1 hgrow _)
      refine ⟨⟨j, zs ++ [y], by omega, by first | rfl | rw [ew] | go_num, ⟨by have := HK.out.1; simp; omega, ?_, ?_⟩⟩, by simp [intOf]; try omega⟩
      · rw [List.map_append, show xs.length - j = xs.length - (j + 1) + 1 by omega]; exact hown1
      · exact (HK.out.2.2.alloc hsz _).grown hgrow (by simp; omega) (fun g hg => (hown.lt g hg).1)
end Go.Proofs.Ytinajjceojfflaa.Kp
