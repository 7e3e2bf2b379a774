/- impl.mod, impl.rank, impl.less and its function: what they tell, of any table; no memory is changed. -/
import Derived.Test.YtinajjceojfflaaK
import Derived.Test.YtinajjceojfflaaProg
import Derived.Lib.Hide
namespace Go.Proofs.Ytinajjceojfflaa
open Go.RowKit

theorem ret_int {k : IntKind} {a b : Int} (h : a = b) : Ending.returned (.int k a) = .returned (.int k b) := by rw [h]
theorem tmod_bd (k n : Int) (h : 0 < n) : -n < k.tmod n ∧ k.tmod n < n := by
  constructor
  · have := Int.tmod_lt_of_pos (-k) h
    rw [Int.neg_tmod] at this; omega
  · exact Int.tmod_lt_of_pos k h
theorem mod_math (k n : Int) (h : 0 < n) (h2 : n ≤ 4611686018427387903) : (wrap64 (k.tmod n + n)).tmod n = k % n := by
  obtain ⟨a, b⟩ := tmod_bd k n h
  rw [show wrap64 (k.tmod n + n) = k.tmod n + n by unfold wrap64; omega]
  rw [Int.tmod_eq_emod_of_nonneg (by omega : 0 ≤ k.tmod n + n)]
  have e : (k.tmod n + n) % n = k % n := by
    rw [Int.add_emod_right, Int.tmod_def]
    rw [Int.sub_emod, Int.mul_emod_right]; simp
  rw [e]
set_option maxHeartbeats 400000 in
theorem mod_calls (k n : Int) (w : World) (h : 0 < n) (h2 : n ≤ 4611686018427387903) :
    Calls Try.prog 49 #[.int .i64 k, .int .i64 n] w fun e w' => e = .returned (.int .i64 (k % n)) ∧ ∃ n, w' = w.drewN n := by
  have H := Lib.hid (mod_math k n h h2)
  go_enter Try.func49, Try.ntmps49
  go_wp2
  go_ret
  exact ⟨ret_int H.out, 0, rfl⟩

/-- a number's place in an order, as the tables say: xs the table. -/
def rankOf (xs : List Int) (k : Int) : Int := if xs = [] then k else xs.getD (k % (xs.length : Int)).toNat 0
set_option maxHeartbeats 400000 in
theorem rank_calls (xs : List Int) (tv : Value) (B : Nat) (k : Int) (w : World) (ht : SlR w B tv (xs.map i64v)) :
    Calls Try.prog 77 #[tv, .int .i64 k] w fun e w' => e = .returned (.int .i64 (rankOf xs k)) ∧ ∃ n, w' = w.drewN n := by
  obtain ⟨A, cap, rfl, hh⟩ := ht.is
  clear ht
  rw [List.length_map] at *
  by_cases hx : xs = []
  · subst hx
    clear hh
    go_enter Try.func77, Try.ntmps77
    go_wp2
    go_ret
    exact ⟨ret_int (by simp [rankOf]), 0, rfl⟩
  · rcases hh with h0 | ⟨b, off, rfl, h1, h2, h3, h4, h5⟩
    · exact absurd (by simpa using h0) hx
    · have hl : 0 < xs.length := List.length_pos_iff.2 hx
      have hm0 : 0 ≤ k % (xs.length : Int) := Int.emod_nonneg _ (by omega)
      have hm1 : k % (xs.length : Int) < (xs.length : Int) := Int.emod_lt_of_pos _ (by omega)
      have H := Lib.hid (show rankOf xs k = xs.getD (k % (xs.length : Int)).toNat 0 by unfold rankOf; rw [if_neg hx])
      have hc : w.cell? ⟨b, off + (k % (xs.length : Int)).toNat, none⟩ = some (.int .i64 (xs.getD (k % (xs.length : Int)).toNat 0)) := by
        rw [h5 _ (by omega), List.getElem?_map]
        rw [List.getElem?_eq_getElem (by omega)]
        simp [i64v, List.getD_eq_getElem?_getD, List.getElem?_eq_getElem (show (k % (xs.length : Int)).toNat < xs.length by omega)]
      have hz : ((xs.length : Int) == 0) = false := by rw [beq_eq_false_iff_ne]; omega
      clear h5 hx
      go_enter Try.func77, Try.ntmps77
      go_wp2_with (go_at_call 49; refine (mod_calls _ _ _ (by omega) (by omega)).mono ?_; rintro e w' ⟨rfl, n, rfl⟩)
      go_ret
      exact ⟨ret_int (by rw [H.out, List.getD_eq_getElem?_getD, List.getElem?_eq_getElem (by omega)]; rfl), _, rfl⟩

/-- a less function of a table: as impl.less makes it; what it reads lies in blocks below B. -/
def LessOk (w : World) (B : Nat) (f : Value) (xs : List Int) : Prop :=
  ∃ tb tv, f = .func (.func 76) #[] #[.pointer (some ⟨tb, 0, none⟩)] ∧ tb < B ∧ w.cell? ⟨tb, 0, none⟩ = some tv ∧ SlR w B tv (xs.map i64v)
theorem LessOk.below {w w' : World} {B : Nat} {f : Value} {xs : List Int} (h : LessOk w B f xs) (hb : Below B w w') : LessOk w' B f xs := by
  obtain ⟨tb, tv, e, h1, h2, h3⟩ := h
  exact ⟨tb, tv, e, h1, (hb.cell (p := ⟨tb, 0, none⟩) h1).trans h2, h3.below hb⟩
def ltB (xs : List Int) (a b : Int) : Bool := decide (rankOf xs a < rankOf xs b)
set_option maxHeartbeats 400000 in
theorem less_calls (xs : List Int) (tb : Nat) (tv : Value) (B : Nat) (a b : Int) (w : World) (hc : w.cell? ⟨tb, 0, none⟩ = some tv) (ht : SlR w B tv (xs.map i64v)) :
    Calls Try.prog 76 #[.int .i64 a, .int .i64 b, .pointer (some ⟨tb, 0, none⟩)] w fun e w' => e = .returned (.bool (ltB xs a b)) ∧ ∃ n, w' = w.drewN n := by
  obtain ⟨A, c, rfl⟩ := ht.form
  rw [List.length_map] at *
  go_enter Try.func76, Try.ntmps76
  go_wp2
  go_quiet ((go_at_call 77; exact Calls.quiet_of (rank_calls xs _ B _ _ (ht.drewN _))))
  go_wp2
  go_ret
  exact ⟨rfl, _, rfl⟩
/-- impl.less: the order's table lies in a block of its own from then on. -/
theorem lessMake_calls (xs : List Int) (ov : Value) (w : World) (ho : SlR w w.heap.size ov (xs.map i64v)) :
    Calls Try.prog 34 #[ov] w fun e w' => ∃ f, e = .returned f ∧ LessOk w' w'.heap.size f xs ∧ Below w.heap.size w w' := by
  obtain ⟨A, c, rfl⟩ := ho.form
  rw [List.length_map] at *
  have H := Lib.hid ho
  clear ho
  go_enter Try.func34, Try.ntmps34
  go_wp2
  go_ret
  have hb : Below w.heap.size w (w.alloc (Obj.cells #[.slice A xs.length c] 22)) := (Below.refl _ _).alloc (Nat.le_refl _) _
  exact ⟨_, rfl, ⟨w.heap.size, _, rfl, by simp, (Blk.new w #[.slice A xs.length c] 22).cell 0, (H.out.below hb).mono (by simp)⟩, hb⟩
/-- impl.less, then one more call that only reads. -/
theorem LessOk.fn {w : World} {B : Nat} {f : Value} {xs : List Int} (h : LessOk w B f xs) : ∃ g fi ca, f = .func g fi ca := by
  obtain ⟨_, _, rfl, _⟩ := h; exact ⟨_, _, _, rfl⟩
end Go.Proofs.Ytinajjceojfflaa
