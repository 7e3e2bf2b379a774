/- spec.Same: two rows of numbers. -/
import Derived.Test.YtjbelfbfhcmgeaaOrd
import Derived.Test.YtjbelfbfhcmgeaaRow
namespace Go.Proofs.Ytjbelfbfhcmgeaa
open Go.RowKit

def int1 (x : Int) : List Value := [.int .i64 x]
theorem int1_len (x : Int) : (int1 x).length = 1 := rfl
theorem int1_flat : ∀ xs : List Int, xs.flatMap int1 = xs.map i64v
  | [] => rfl
  | x :: xs => by rw [List.flatMap_cons, int1_flat xs]; rfl
/-- a slice of ints. -/
abbrev SlI (w : World) (B : Nat) (v : Value) (xs : List Int) : Prop := SlC 1 int1 w B v xs
theorem SlR.toI {w : World} {B : Nat} {v : Value} {xs : List Int} (h : SlR w B v (xs.map i64v)) : SlI w B v xs := by
  obtain ⟨A, cap, e, h⟩ := h.is
  rw [List.length_map] at e h
  refine ⟨A, cap, e, ?_⟩
  rcases h with h | ⟨b, off, rfl, h1, h2, h3, h4, h5⟩
  · exact .inl (List.map_eq_nil_iff.1 h)
  · refine .inr ⟨b, off, rfl, h1, h3, h4, fun i a hi j u hj => ?_⟩
    have hl := (List.getElem?_eq_some_iff.1 hi).1
    cases j with
    | succ j => simp [int1] at hj
    | zero =>
      have := h5 i hl
      rw [List.getElem?_map, hi] at this
      simp only [int1, List.getElem?_cons_zero, Option.some.injEq] at hj
      rw [Nat.mul_one, Nat.add_zero, this, ← hj]; rfl
theorem SlI.at_ {w : World} {B n c : Nat} {A : Option Addr} {xs : List Int} (h : SlI w B (.slice A n c) xs) {i : Nat} (hi : i < xs.length) : ∃ b off, A = some ⟨b, off, none⟩ ∧ xs.length ≤ c ∧ b < B ∧ w.cell? ⟨b, off + i, none⟩ = some (.int .i64 xs[i]) := by
  obtain ⟨b, off, a, e, h1, h2, _, h4, h5⟩ := SlC.at_ h hi
  have := h5 0 _ rfl
  rw [Nat.mul_one, Nat.add_zero] at this
  rw [List.getElem?_eq_getElem hi, Option.some.injEq] at h4
  subst h4
  exact ⟨b, off, e, h1, h2, this⟩
theorem take_succ_eq {α : Type} {xs ys : List α} {k : Nat} (hx : k < xs.length) (hy : k < ys.length) (h : xs.take k = ys.take k) (e : xs[k] = ys[k]) : xs.take (k + 1) = ys.take (k + 1) := by
  rw [List.take_succ_eq_append_getElem hx, List.take_succ_eq_append_getElem hy, h, e]
theorem take_succ_ne {α : Type} {xs ys : List α} {k : Nat} (hx : k < xs.length) (hy : k < ys.length) (e : xs[k] ≠ ys[k]) : xs ≠ ys := by
  rintro rfl; exact e rfl
set_option maxRecDepth 100000 in
set_option maxHeartbeats 800000 in
theorem same_calls (xs ys : List Int) (av bv : Value) (B B' : Nat) (w : World) (ha : SlI w B av xs) (hb : SlI w B' bv ys) (hn : xs.length ≤ 9223372036854775807) :
    Calls Try.prog 25 #[av, bv] w fun e w' => e = .returned (.bool (decide (xs = ys))) ∧ ∃ n, w' = w.drewN n := by
  obtain ⟨A, c, rfl⟩ := ha.form
  obtain ⟨A2, c2, rfl⟩ := hb.form
  have HA := Lib.hid ha
  have HB := Lib.hid hb
  clear ha hb
  by_cases hl : xs.length = ys.length
  case neg =>
    have hd : decide (xs = ys) = false := decide_eq_false (fun e => hl (by rw [e]))
    have HD := Lib.hid hd
    clear hd
    have hne : ((xs.length : Int) != (ys.length : Int)) = true := by simp; omega
    go_enter Try.func25, Try.ntmps25
    go_wp2
    go_ret
    exact ⟨by rw [HD.out]; rfl, 0, rfl⟩
  rw [← hl] at HB ⊢
  have hne : ((xs.length : Int) != (xs.length : Int)) = false := by simp
  go_enter Try.func25, Try.ntmps25
  go_wp2_with fail
  clear hne
  have HL := Lib.hid hl
  clear hl
  go_loopw [5] (fun i wr => ∃ k n : Nat, k ≤ xs.length ∧ i = .int .i64 k ∧ wr = w.drewN n ∧ xs.take k = ys.take k) (fun i _ => xs.length - (intOf i).toNat)
  case atStart => exact ⟨0, 0, Nat.zero_le _, rfl, rfl, rfl⟩
  case round =>
    obtain ⟨k, n, hk, rfl, rfl, htk⟩ := hrel
    by_cases hlt : k < xs.length
    · have hlt2 : k < ys.length := by have := HL.out; omega
      obtain ⟨b, off, rfl, g1, _, c1⟩ := SlI.at_ HA.out hlt
      obtain ⟨b2, off2, rfl, g2, _, c2'⟩ := SlI.at_ HB.out hlt2
      have p0 : (0 : Int) ≤ (k : Int) := by omega
      have p1 : (k : Int) < (xs.length : Int) := by omega
      have HT := Lib.hid htk
      clear htk
      have HX := Lib.hid (take_succ_eq hlt hlt2 HT.out)
      have HN := Lib.hid (take_succ_ne (xs := xs) (ys := ys) hlt hlt2)
      generalize xs[k] = x at *
      generalize ys[k] = y at *
      by_cases hxy : x = y
      · subst hxy
        have hne : (x != x) = false := by simp
        go_wp2_with fail
        go_quiet (fail)
        go_wp2_with fail
        exact ⟨⟨k + 1, _, by omega, by go_num, rfl, HX.out trivial⟩, by simp [intOf]; omega⟩
      · have hne : (x != y) = true := by simpa using hxy
        have hd : decide (xs = ys) = false := decide_eq_false (HN.out hxy)
        have HD := Lib.hid hd
        clear hd
        go_wp2_with fail
        go_quiet (fail)
        go_wp2_with fail
        go_ret
        exact ⟨by rw [HD.out]; rfl, _, World.drewN_drewN _ _ _⟩
    · have e : k = xs.length := by omega
      subst e
      have hd : decide (xs = ys) = true := decide_eq_true (by rw [List.take_length] at htk; rw [htk, HL.out, List.take_length])
      have HD := Lib.hid hd
      clear hd
      go_wp2_with fail
      go_ret
      exact ⟨by rw [HD.out]; rfl, _, rfl⟩
end Go.Proofs.Ytjbelfbfhcmgeaa
