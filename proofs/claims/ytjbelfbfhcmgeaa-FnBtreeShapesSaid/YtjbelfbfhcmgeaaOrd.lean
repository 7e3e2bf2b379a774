/- impl.mod, impl.rank, impl.less's function, generic.Compare, Max: what they tell, of any table; no memory is changed. -/
import Derived.Test.YtjbelfbfhcmgeaaK
import Derived.Test.YtjbelfbfhcmgeaaProg
import Derived.Lib.Hide
namespace Go.Proofs.Ytjbelfbfhcmgeaa
open Go.RowKit

theorem ret_int {k : IntKind} {a b : Int} (h : a = b) : Ending.returned (.int k a) = .returned (.int k b) := by rw [h]
theorem tmod_bd (k n : Int) (h : 0 < n) : -n < k.tmod n ∧ k.tmod n < n := by
  constructor
  · have := Int.tmod_lt_of_pos (-k) h
    rw [Int.neg_tmod] at this; omega
  · exact Int.tmod_lt_of_pos k h
theorem mod_math (k n : Int) (h : 0 < n) (h2 : n ≤ 4611686018427387903) : (wrap64 (k.tmod n + n)).tmod n = k % n := by
  obtain ⟨a, b⟩ := tmod_bd k n h
  rw [show wrap64 (k.tmod n + n) = k.tmod n + n by unfold wrap64; omega]
  rw [Int.tmod_eq_emod_of_nonneg (by omega : 0 ≤ k.tmod n + n)]
  have e : (k.tmod n + n) % n = k % n := by
    rw [Int.add_emod_right, Int.tmod_def]
    rw [Int.sub_emod, Int.mul_emod_right]; simp
  rw [e]
set_option maxHeartbeats 400000 in
theorem mod_calls (k n : Int) (w : World) (h : 0 < n) (h2 : n ≤ 4611686018427387903) :
    Calls Try.prog 59 #[.int .i64 k, .int .i64 n] w fun e w' => e = .returned (.int .i64 (k % n)) ∧ ∃ n, w' = w.drewN n := by
  have H := Lib.hid (mod_math k n h h2)
  go_enter Try.func59, Try.ntmps59
  go_wp2
  go_ret
  exact ⟨ret_int H.out, 0, rfl⟩

/-- a number's place in an order, as the tables say: xs the table. -/
def rankOf (xs : List Int) (k : Int) : Int := if xs = [] then k else xs.getD (k % (xs.length : Int)).toNat 0
set_option maxHeartbeats 400000 in
theorem rank_calls (xs : List Int) (tv : Value) (B : Nat) (k : Int) (w : World) (ht : SlR w B tv (xs.map i64v)) :
    Calls Try.prog 43 #[tv, .int .i64 k] w fun e w' => e = .returned (.int .i64 (rankOf xs k)) ∧ ∃ n, w' = w.drewN n := by
  obtain ⟨A, cap, rfl, hh⟩ := ht.is
  clear ht
  rw [List.length_map] at *
  by_cases hx : xs = []
  · subst hx
    clear hh
    go_enter Try.func43, Try.ntmps43
    go_wp2
    go_ret
    exact ⟨ret_int (by simp [rankOf]), 0, rfl⟩
  · rcases hh with h0 | ⟨b, off, rfl, h1, h2, h3, h4, h5⟩
    · exact absurd (by simpa using h0) hx
    · have hl : 0 < xs.length := List.length_pos_iff.2 hx
      have hm0 : 0 ≤ k % (xs.length : Int) := Int.emod_nonneg _ (by omega)
      have hm1 : k % (xs.length : Int) < (xs.length : Int) := Int.emod_lt_of_pos _ (by omega)
      have H := Lib.hid (show rankOf xs k = xs.getD (k % (xs.length : Int)).toNat 0 by unfold rankOf; rw [if_neg hx])
      have hc : w.cell? ⟨b, off + (k % (xs.length : Int)).toNat, none⟩ = some (.int .i64 (xs.getD (k % (xs.length : Int)).toNat 0)) := by
        rw [h5 _ (by omega), List.getElem?_map]
        rw [List.getElem?_eq_getElem (by omega)]
        simp [i64v, List.getD_eq_getElem?_getD, List.getElem?_eq_getElem (show (k % (xs.length : Int)).toNat < xs.length by omega)]
      have hz : ((xs.length : Int) == 0) = false := by rw [beq_eq_false_iff_ne]; omega
      clear h5 hx
      go_enter Try.func43, Try.ntmps43
      go_wp2_with (go_at_call 59; refine (mod_calls _ _ _ (by omega) (by omega)).mono ?_; rintro e w' ⟨rfl, n, rfl⟩)
      go_ret
      exact ⟨ret_int (by rw [H.out, List.getD_eq_getElem?_getD, List.getElem?_eq_getElem (by omega)]; rfl), _, rfl⟩

/-- a less function of a table: as impl.less makes it; what it reads lies in blocks below B. -/
def LessOk (w : World) (B : Nat) (f : Value) (xs : List Int) : Prop :=
  ∃ tb tv, f = .func (.func 42) #[] #[.pointer (some ⟨tb, 0, none⟩)] ∧ tb < B ∧ w.cell? ⟨tb, 0, none⟩ = some tv ∧ SlR w B tv (xs.map i64v)
theorem LessOk.below {w w' : World} {B : Nat} {f : Value} {xs : List Int} (h : LessOk w B f xs) (hb : Below B w w') : LessOk w' B f xs := by
  obtain ⟨tb, tv, e, h1, h2, h3⟩ := h
  exact ⟨tb, tv, e, h1, (hb.cell (p := ⟨tb, 0, none⟩) h1).trans h2, h3.below hb⟩
def ltB (xs : List Int) (a b : Int) : Bool := decide (rankOf xs a < rankOf xs b)
set_option maxHeartbeats 400000 in
theorem less_calls (xs : List Int) (tb : Nat) (tv : Value) (B : Nat) (a b : Int) (w : World) (hc : w.cell? ⟨tb, 0, none⟩ = some tv) (ht : SlR w B tv (xs.map i64v)) :
    Calls Try.prog 42 #[.int .i64 a, .int .i64 b, .pointer (some ⟨tb, 0, none⟩)] w fun e w' => e = .returned (.bool (ltB xs a b)) ∧ ∃ n, w' = w.drewN n := by
  obtain ⟨A, c, rfl⟩ := ht.form
  rw [List.length_map] at *
  go_enter Try.func42, Try.ntmps42
  go_wp2
  go_quiet ((go_at_call 43; exact Calls.quiet_of (rank_calls xs _ B _ _ (ht.drewN _))))
  go_wp2
  go_ret
  exact ⟨rfl, _, rfl⟩
/-- generic.Compare: -1 less, 1 greater, 0 neither. -/
def cmpOf (xs : List Int) (a b : Int) : Int := if rankOf xs a < rankOf xs b then -1 else if rankOf xs b < rankOf xs a then 1 else 0
set_option maxHeartbeats 400000 in
theorem compare_calls (xs : List Int) (f : Value) (B : Nat) (a b : Int) (w : World) (hf : LessOk w B f xs) :
    Calls Try.prog 69 #[.int .i64 a, .int .i64 b, f] w fun e w' => e = .returned (.int .i64 (cmpOf xs a b)) ∧ ∃ n, w' = w.drewN n := by
  obtain ⟨tb, tv, rfl, h1, h2, h3⟩ := hf
  by_cases c1 : ltB xs a b = true
  · have H := Lib.hid (show cmpOf xs a b = -1 by unfold cmpOf; rw [if_pos (of_decide_eq_true c1)])
    go_enter Try.func69, Try.ntmps69
    go_wp2_with (go_at_call 42; refine (less_calls xs tb tv B _ _ _ (by exact h2) (by first | exact h3 | exact h3.drewN _)).mono ?_; rintro e w1 ⟨rfl, n1, rfl⟩)
    go_ret
    exact ⟨ret_int H.out.symm, _, rfl⟩
  · have c1' : ltB xs a b = false := by simpa using c1
    have d1 := of_decide_eq_false c1'
    clear c1
    by_cases c2 : ltB xs b a = true
    · have H := Lib.hid (show cmpOf xs a b = 1 by unfold cmpOf; rw [if_neg d1, if_pos (of_decide_eq_true c2)])
      clear d1
      go_enter Try.func69, Try.ntmps69
      go_wp2_with (go_at_call 42; refine (less_calls xs tb tv B _ _ _ (by exact h2) (by first | exact h3 | exact h3.drewN _)).mono ?_; rintro e w' ⟨rfl, n, rfl⟩)
      go_ret
      exact ⟨ret_int H.out.symm, _, rfl⟩
    · have c2' : ltB xs b a = false := by simpa using c2
      have H := Lib.hid (show cmpOf xs a b = 0 by unfold cmpOf; rw [if_neg d1, if_neg (of_decide_eq_false c2')])
      clear d1 c2
      go_enter Try.func69, Try.ntmps69
      go_wp2_with (go_at_call 42; refine (less_calls xs tb tv B _ _ _ (by exact h2) (by first | exact h3 | exact h3.drewN _)).mono ?_; rintro e w' ⟨rfl, n, rfl⟩)
      go_ret
      exact ⟨ret_int H.out.symm, _, rfl⟩
theorem max_calls (a b : Int) (w : World) :
    Calls Try.prog 76 #[.int .i64 a, .int .i64 b] w fun e w' => e = .returned (.int .i64 (max a b)) ∧ w = w' := by
  by_cases c : b < a
  · go_enter Try.func76, Try.ntmps76
    go_wp2
    go_ret
    exact ⟨ret_int (by omega), rfl⟩
  · go_enter Try.func76, Try.ntmps76
    go_wp2
    go_ret
    exact ⟨ret_int (by omega), rfl⟩
end Go.Proofs.Ytjbelfbfhcmgeaa
