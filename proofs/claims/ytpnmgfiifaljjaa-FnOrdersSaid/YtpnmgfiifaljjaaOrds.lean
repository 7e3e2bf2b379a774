/- Compare, Max, Min, Clamp by an order, and the law's own functions: what they tell; no memory is changed. -/
import Derived.Test.YtpnmgfiifaljjaaOrd
namespace Go.Proofs.Ytpnmgfiifaljjaa
open Go.RowKit

theorem tmod3 (k n : Int) (h : 0 < n) (h2 : n ≤ 4611686018427387903) : (wrap64 (k.tmod n + n)).tmod n = k % n := mod_math k n h h2
set_option maxHeartbeats 400000 in
theorem specRank_calls (xs : List Int) (tv : Value) (B : Nat) (k : Int) (w : World) (ht : SlR w B tv (xs.map i64v)) :
    Calls Try.prog 21 #[tv, .int .i64 k] w fun e w' => e = .returned (.int .i64 (rankOf xs k)) ∧ ∃ n, w' = w.drewN n := by
  obtain ⟨A, cap, rfl, hh⟩ := ht.is
  clear ht
  rw [List.length_map] at *
  by_cases hx : xs = []
  · subst hx
    clear hh
    go_enter Try.func21, Try.ntmps21
    go_wp2
    go_ret
    exact ⟨ret_int (by simp [rankOf]), 0, rfl⟩
  · rcases hh with h0 | ⟨b, off, rfl, h1, h2, h3, h4, h5⟩
    · exact absurd (by simpa using h0) hx
    · have hl : 0 < xs.length := List.length_pos_iff.2 hx
      have hm0 : 0 ≤ k % (xs.length : Int) := Int.emod_nonneg _ (by omega)
      have hm1 : k % (xs.length : Int) < (xs.length : Int) := Int.emod_lt_of_pos _ (by omega)
      have H := Lib.hid (show rankOf xs k = xs.getD (k % (xs.length : Int)).toNat 0 by unfold rankOf; rw [if_neg hx])
      have hc : w.cell? ⟨b, off + (k % (xs.length : Int)).toNat, none⟩ = some (.int .i64 (xs.getD (k % (xs.length : Int)).toNat 0)) := by
        rw [h5 _ (by omega), List.getElem?_map]
        rw [List.getElem?_eq_getElem (by omega)]
        simp [i64v, List.getD_eq_getElem?_getD, List.getElem?_eq_getElem (show (k % (xs.length : Int)).toNat < xs.length by omega)]
      have hz : ((xs.length : Int) == 0) = false := by rw [beq_eq_false_iff_ne]; omega
      have e3 := mod_math k xs.length (by omega) (by omega)
      clear h5 hx
      go_enter Try.func21, Try.ntmps21
      go_wp2
      go_ret
      exact ⟨ret_int (by rw [H.out, List.getD_eq_getElem?_getD, List.getElem?_eq_getElem (by omega)]; rfl), 0, rfl⟩
set_option maxHeartbeats 400000 in
theorem rankFn_calls (xs : List Int) (tb : Nat) (tv : Value) (B : Nat) (k : Int) (w : World) (hc : w.cell? ⟨tb, 0, none⟩ = some tv) (ht : SlR w B tv (xs.map i64v)) :
    Calls Try.prog 20 #[.int .i64 k, .pointer (some ⟨tb, 0, none⟩)] w fun e w' => e = .returned (.int .i64 (rankOf xs k)) ∧ ∃ n, w' = w.drewN n := by
  obtain ⟨A, c, rfl⟩ := ht.form
  rw [List.length_map] at *
  go_enter Try.func20, Try.ntmps20
  go_wp2_with (go_at_call 21; refine (specRank_calls xs _ B _ _ ht).mono ?_; rintro e w1 ⟨rfl, n, rfl⟩)
  go_ret
  exact ⟨rfl, _, rfl⟩
def maxF (xs : List Int) (a b : Int) : Int := if rankOf xs b < rankOf xs a then a else b
def minF (xs : List Int) (a b : Int) : Int := if rankOf xs a < rankOf xs b then a else b
set_option maxHeartbeats 400000 in
theorem gmaxF_calls (xs : List Int) (f : Value) (B : Nat) (a b : Int) (w : World) (hf : LessOk w B f xs) :
    Calls Try.prog 43 #[.int .i64 a, .int .i64 b, f] w fun e w' => e = .returned (.int .i64 (maxF xs a b)) ∧ ∃ n, w' = w.drewN n := by
  obtain ⟨tb, tv, rfl, h1, h2, h3⟩ := hf
  by_cases c1 : ltB xs b a = true
  · have H := Lib.hid (show maxF xs a b = a by unfold maxF; rw [if_pos (of_decide_eq_true c1)])
    go_enter Try.func43, Try.ntmps43
    go_wp2_with (go_at_call 61; refine (less_calls xs tb tv B _ _ _ (by exact h2) (by first | exact h3 | exact h3.drewN _)).mono ?_; rintro e w' ⟨rfl, n, rfl⟩)
    go_ret
    exact ⟨ret_int H.out.symm, _, rfl⟩
  · have c2 : ltB xs b a = false := by simpa using c1
    have H := Lib.hid (show maxF xs a b = b by unfold maxF; rw [if_neg (of_decide_eq_false c2)])
    clear c1
    go_enter Try.func43, Try.ntmps43
    go_wp2_with (go_at_call 61; refine (less_calls xs tb tv B _ _ _ (by exact h2) (by first | exact h3 | exact h3.drewN _)).mono ?_; rintro e w' ⟨rfl, n, rfl⟩)
    go_ret
    exact ⟨ret_int H.out.symm, _, rfl⟩
set_option maxHeartbeats 400000 in
theorem gminF_calls (xs : List Int) (f : Value) (B : Nat) (a b : Int) (w : World) (hf : LessOk w B f xs) :
    Calls Try.prog 44 #[.int .i64 a, .int .i64 b, f] w fun e w' => e = .returned (.int .i64 (minF xs a b)) ∧ ∃ n, w' = w.drewN n := by
  obtain ⟨tb, tv, rfl, h1, h2, h3⟩ := hf
  by_cases c1 : ltB xs a b = true
  · have H := Lib.hid (show minF xs a b = a by unfold minF; rw [if_pos (of_decide_eq_true c1)])
    go_enter Try.func44, Try.ntmps44
    go_wp2_with (go_at_call 61; refine (less_calls xs tb tv B _ _ _ (by exact h2) (by first | exact h3 | exact h3.drewN _)).mono ?_; rintro e w' ⟨rfl, n, rfl⟩)
    go_ret
    exact ⟨ret_int H.out.symm, _, rfl⟩
  · have c2 : ltB xs a b = false := by simpa using c1
    have H := Lib.hid (show minF xs a b = b by unfold minF; rw [if_neg (of_decide_eq_false c2)])
    clear c1
    go_enter Try.func44, Try.ntmps44
    go_wp2_with (go_at_call 61; refine (less_calls xs tb tv B _ _ _ (by exact h2) (by first | exact h3 | exact h3.drewN _)).mono ?_; rintro e w' ⟨rfl, n, rfl⟩)
    go_ret
    exact ⟨ret_int H.out.symm, _, rfl⟩
theorem gmin_calls (a b : Int) (w : World) :
    Calls Try.prog 49 #[.int .i64 a, .int .i64 b] w fun e w' => e = .returned (.int .i64 (min a b)) ∧ w = w' := by
  by_cases c : a < b
  · go_enter Try.func49, Try.ntmps49
    go_wp2
    go_ret
    exact ⟨ret_int (by omega), rfl⟩
  · go_enter Try.func49, Try.ntmps49
    go_wp2
    go_ret
    exact ⟨ret_int (by omega), rfl⟩
theorem gclamp_calls (x lo hi : Int) (w : World) :
    Calls Try.prog 47 #[.int .i64 x, .int .i64 lo, .int .i64 hi] w fun e w' => e = .returned (.int .i64 (max lo (min hi x))) ∧ w = w' := by
  go_enter Try.func47, Try.ntmps47
  go_wp2_with (first | (go_at_call 49; refine (gmin_calls _ _ _).mono ?_; rintro e w' ⟨rfl, rfl⟩) | (go_at_call 48; refine (max_calls _ _ _).mono ?_; rintro e w' ⟨rfl, rfl⟩))
  go_ret
  exact ⟨rfl, rfl⟩
theorem implMax_calls (a b : Int) (w : World) :
    Calls Try.prog 29 #[.int .i64 a, .int .i64 b] w fun e w' => e = .returned (.int .i64 (max a b)) ∧ ∃ n, w' = w.drewN n := by
  go_enter Try.func29, Try.ntmps29
  go_wp2_with (go_at_call 48; refine (max_calls _ _ _).mono ?_; rintro e w' ⟨rfl, rfl⟩)
  go_ret
  exact ⟨rfl, 0, rfl⟩
theorem implMin_calls (a b : Int) (w : World) :
    Calls Try.prog 30 #[.int .i64 a, .int .i64 b] w fun e w' => e = .returned (.int .i64 (min a b)) ∧ ∃ n, w' = w.drewN n := by
  go_enter Try.func30, Try.ntmps30
  go_wp2_with (go_at_call 49; refine (gmin_calls _ _ _).mono ?_; rintro e w' ⟨rfl, rfl⟩)
  go_ret
  exact ⟨rfl, 0, rfl⟩
theorem implClamp_calls (a b c : Int) (w : World) :
    Calls Try.prog 27 #[.int .i64 a, .int .i64 b, .int .i64 c] w fun e w' => e = .returned (.int .i64 (max b (min c a))) ∧ ∃ n, w' = w.drewN n := by
  go_enter Try.func27, Try.ntmps27
  go_wp2_with (go_at_call 47; refine (gclamp_calls _ _ _ _).mono ?_; rintro e w' ⟨rfl, rfl⟩)
  go_ret
  exact ⟨rfl, 0, rfl⟩
set_option maxHeartbeats 400000 in
theorem gclampF_calls (xs : List Int) (f : Value) (B : Nat) (x lo hi : Int) (w : World) (hf : LessOk w B f xs) :
    Calls Try.prog 46 #[.int .i64 x, .int .i64 lo, .int .i64 hi, f] w fun e w' => e = .returned (.int .i64 (maxF xs lo (minF xs hi x))) ∧ ∃ n, w' = w.drewN n := by
  obtain ⟨g, hg⟩ : ∃ fn fi ca, f = .func fn fi ca := by obtain ⟨_, _, rfl, _⟩ := hf; exact ⟨_, _, _, rfl⟩
  obtain ⟨fi, ca, rfl⟩ := hg
  have HF := Lib.hid hf
  clear hf
  go_enter Try.func46, Try.ntmps46
  go_wp2_with (first | (go_at_call 44; refine (gminF_calls xs _ B _ _ _ HF.out).mono ?_; rintro e w' ⟨rfl, n, rfl⟩) | (go_at_call 43; refine (gmaxF_calls xs _ B _ _ _ (HF.out.below (Below.drewN _ _))).mono ?_; rintro e w' ⟨rfl, n, rfl⟩))
  go_ret
  exact ⟨rfl, _, rfl⟩
end Go.Proofs.Ytpnmgfiifaljjaa
