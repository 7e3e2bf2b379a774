/- spec.put, spec.cut. -/
import Derived.Test.YtlpcddmcddenfaaTriO0
namespace Go.Proofs.Ytlpcddmcddenfaa.Kp
open Go.RowKit Tri

theorem infoInt : (Try.prog.info? 3).map (fun i => (i.zero, i.size, i.bytes)) = some (some (.int .i64 0), 1, 8) := by kernel_rfl
def num1 (x : Int) : List Value := [i64v x]
theorem num1_len (x : Int) : (num1 x).length = 1 := rfl
theorem num1_flat : ∀ xs : List Int, xs.flatMap num1 = xs.map i64v
  | [] => rfl
  | x :: xs => by rw [List.flatMap_cons, num1_flat xs]; rfl
abbrev NXI (w : World) (v : Value) (xs : List Int) : Prop := NX 3 i64v w v xs
def Row1 (w : World) (xs : List Int) (e : Ending) (w' : World) : Prop := ∃ v, e = .returned v ∧ w'.ownsRow w.heap.size 3 1 v xs.length (xs.map i64v) ∧ Below w.heap.size w w'
set_option maxRecDepth 100000 in
set_option maxHeartbeats 1600000 in
theorem sput_calls (xs : List Int) (lv : Value) (i : Nat) (x : Int) (w : World) (hl : NXI w lv xs) (hi : i ≤ xs.length) (hn : xs.length ≤ 100000000000) :
    Calls Try.prog 41 #[lv, .int .i64 i, .int .i64 x] w (Row1 w (xs.take i ++ [x] ++ xs.drop i)) := by
  obtain ⟨i0, hi0, hz0, hz1, hz2⟩ := info_parts infoInt
  have hdl : (xs.drop i).length = xs.length - i := List.length_drop
  have htl : (xs.take i).length = i := by rw [List.length_take]; omega
  obtain ⟨A, c, rfl⟩ := hl.form
  have hparts : ∃ (A1 A2 : Option Addr) (c1 c2 : Nat), NXI w (.slice A1 i c1) (xs.take i) ∧ NXI w (.slice A2 (xs.length - i) c2) (xs.drop i) ∧
      (A = none ∧ xs.length = 0 ∧ c = 0 ∧ A1 = none ∧ c1 = 0 ∧ A2 = none ∧ c2 = 0 ∨ ∃ b off, A = some ⟨b, off, none⟩ ∧ A1 = some ⟨b, off, none⟩ ∧ c1 = c ∧ xs.length ≤ c ∧ c ≤ 9223372036854775807 ∧ c2 = c - i ∧ (c = i ∧ A2 = some ⟨b, off, none⟩ ∨ (c == i) = false ∧ i < c ∧ A2 = some ⟨b, off + i, none⟩)) := by
    rcases hl.is with ⟨e, rfl⟩ | ⟨b, off, c', cur, e, h1, h2, h3, h4⟩
    · cases e
      have : i = 0 := by simpa using hi
      subst this
      exact ⟨none, none, 0, 0, by simpa using NX.nil w, by simpa using NX.nil w, .inl ⟨rfl, rfl, rfl, rfl, rfl, rfl, rfl⟩⟩
    · cases e
      by_cases hc : c = i
      · subst hc
        refine ⟨some ⟨b, off, none⟩, some ⟨b, off, none⟩, c, 0, hl.take hi, ?_, .inr ⟨b, off, rfl, rfl, rfl, h1, h2, by omega, .inl ⟨rfl, rfl⟩⟩⟩
        have := hl.drop_all (i := c) (by omega)
        rw [show xs.length - c = 0 by omega]
        exact this
      · exact ⟨some ⟨b, off, none⟩, some ⟨b, off + i, none⟩, c, c - i, hl.take hi, hl.drop hi, .inr ⟨b, off, rfl, rfl, rfl, h1, h2, rfl, .inr ⟨by simpa using hc, by omega, rfl⟩⟩⟩
  obtain ⟨A1, A2, c1, c2, p1, p2, hw⟩ := hparts
  have P1 := Lib.hid p1.sl
  have P2 := Lib.hid p2.sl
  have N1 := Lib.hid p1.hnone
  have N2 := Lib.hid p2.hnone
  have HD := Lib.hid hdl
  have HT := Lib.hid htl
  clear p1 p2 hl hdl htl
  generalize xs.take i = t1 at *
  generalize xs.drop i = t2 at *
  generalize xs.length = n at *
  have O1 := Lib.hid (own_mt w w.heap.size (Nat.le_refl _) 3 1)
  have B0 : Below w.heap.size w (w.alloc (.cells #[] 3)) := (Below.refl _ w).alloc (Nat.le_refl _) _
  rcases hw with ⟨rfl, rfl, rfl, rfl, rfl, rfl, rfl⟩ | ⟨b, off, rfl, rfl, rfl, h1, h2, rfl, (⟨rfl, rfl⟩ | ⟨hc, h3, rfl⟩)⟩
  case' inl => obtain rfl : i = 0 := by omega
  case' inr.inl =>
    obtain rfl : n = c1 := by omega
    rw [Nat.sub_self] at P2 N2 HD
  all_goals
    go_enter Try.func41, Try.ntmps41
    go_wp2_with (at_builtin; first
      | (refine wpList_append_C num1_len _ rfl (.tmp 8) (.tmp 11) 37 rfl w.heap.size 3 i0 _ 8 Try.underlying37 hi0 hz0 hz1 hz2 rfl (by omega) _ 0 [] rfl O1.out _ t1 rfl (P1.out.below B0) N1.out (by intro a; simp [num1, Value.oneCell']) (by unfold maxLen; have := HT.out; omega) (by have := HT.out; omega) B0.size ?_
         intro v1 w1 o1 g1
         have B1 : Below w.heap.size w w1 := B0.grown g1 B0.size (fun g hg => (O1.out.lt g hg).1)
         have z1 := B1.size)
      | (refine wpList_append_own _ rfl (.tmp 13) (.tmp 15) 37 rfl w.heap.size 3 i0 _ 1 8 Try.underlying37 hi0 hz0 hz1 hz2 rfl (by omega) v1 (0 + t1.length) _ rfl (o1.alloc _) ⟨w1.heap.size, 0, none⟩ 1 1 [.int .i64 x] rfl rfl (kd_news (Blk.new w1 _ _)) (by simp [Value.oneCell']) (by unfold maxLen; have := HT.out; omega) (by have := HT.out; omega) (by simp; omega) ?_
         intro v2 w2 o2 g2 _
         have B2 : Below w.heap.size w w2 := (B1.alloc z1 _).grown g2 (by simp; omega) (fun g hg => (o1.lt g hg).1)
         have z2 := B2.size)
      | (refine wpList_append_C num1_len _ rfl (.tmp 17) (.tmp 20) 37 rfl w.heap.size 3 i0 _ 8 Try.underlying37 hi0 hz0 hz1 hz2 rfl (by omega) v2 (0 + t1.length + 1) _ rfl o2 _ t2 rfl (P2.out.below B2) N2.out (by intro a; simp [num1, Value.oneCell']) (by unfold maxLen; have := HT.out; have := HD.out; omega) (by have := HT.out; have := HD.out; omega) z2 ?_
         intro v3 w3 o3 g3))
    go_ret
    refine ⟨v3, rfl, ?_, B2.grown g3 z2 (fun g hg => (o2.lt g hg).1)⟩
    rw [num1_flat, num1_flat] at o3
    have e1 : (t1 ++ [x] ++ t2).length = 0 + t1.length + 1 + t2.length := by simp; omega
    rw [e1, List.map_append, List.map_append]
    exact o3
set_option maxRecDepth 100000 in
set_option maxHeartbeats 1600000 in
theorem scut_calls (xs : List Int) (lv : Value) (i : Nat) (w : World) (hl : NXI w lv xs) (hi : i < xs.length) (hn : xs.length ≤ 100000000000) :
    Calls Try.prog 42 #[lv, .int .i64 i] w (Row1 w (xs.take i ++ xs.drop (i + 1))) := by
  obtain ⟨i0, hi0, hz0, hz1, hz2⟩ := info_parts infoInt
  have hdl : (xs.drop (i + 1)).length = xs.length - (i + 1) := List.length_drop
  have htl : (xs.take i).length = i := by rw [List.length_take]; omega
  have hparts : ∃ (b off c : Nat) (A2 : Option Addr), lv = .slice (some ⟨b, off, none⟩) xs.length c ∧ NXI w (.slice (some ⟨b, off, none⟩) i c) (xs.take i) ∧ NXI w (.slice A2 (xs.length - (i + 1)) (c - (i + 1))) (xs.drop (i + 1)) ∧
      (xs.length ≤ c ∧ c ≤ 9223372036854775807 ∧ (c = i + 1 ∧ A2 = some ⟨b, off, none⟩ ∨ (c = i + 1) = False ∧ i + 1 < c ∧ A2 = some ⟨b, off + (i + 1), none⟩)) := by
    rcases hl.is with ⟨e, rfl⟩ | ⟨b, off, c', cur, e, h1, h2, h3, h4⟩
    · simp at hi
    · subst e
      by_cases hc : c' = i + 1
      · subst hc
        refine ⟨b, off, i + 1, some ⟨b, off, none⟩, rfl, hl.take (by omega), ?_, h1, h2, .inl ⟨rfl, rfl⟩⟩
        have := hl.drop_all (i := i + 1) (by omega)
        rw [show xs.length - (i + 1) = 0 by omega, Nat.sub_self]
        exact this
      · exact ⟨b, off, c', some ⟨b, off + (i + 1), none⟩, rfl, hl.take (by omega), hl.drop (by omega), h1, h2, .inr ⟨eq_false hc, by omega, rfl⟩⟩
  obtain ⟨b, off, c, A2, rfl, p1, p2, h1, h2, hw⟩ := hparts
  have P1 := Lib.hid p1.sl
  have P2 := Lib.hid p2.sl
  have N1 := Lib.hid p1.hnone
  have N2 := Lib.hid p2.hnone
  have HD := Lib.hid hdl
  have HT := Lib.hid htl
  clear p1 p2 hl hdl htl
  generalize xs.take i = t1 at *
  generalize xs.drop (i + 1) = t2 at *
  generalize xs.length = n at *
  have O1 := Lib.hid (own_mt w w.heap.size (Nat.le_refl _) 3 1)
  have B0 : Below w.heap.size w (w.alloc (.cells #[] 3)) := (Below.refl _ w).alloc (Nat.le_refl _) _
  have ew : IntKind.i64.wrap ((i : Int) + 1) = ((i + 1 : Nat) : Int) := by rw [show ((i + 1 : Nat) : Int) = (i : Int) + 1 by omega]; exact IntWalk.i64_in _ (by omega)
  rcases hw with ⟨rfl, rfl⟩ | ⟨hc, h3, rfl⟩
  case' inl =>
    obtain rfl : n = i + 1 := by omega
    rw [Nat.sub_self] at P2 N2 HD
  all_goals
    go_enter Try.func42, Try.ntmps42
    go_wp2_with (at_builtin; first
      | (refine wpList_append_C num1_len _ rfl (.tmp 6) (.tmp 9) 37 rfl w.heap.size 3 i0 _ 8 Try.underlying37 hi0 hz0 hz1 hz2 rfl (by omega) _ 0 [] rfl O1.out _ t1 rfl (P1.out.below B0) N1.out (by intro a; simp [num1, Value.oneCell']) (by unfold maxLen; have := HT.out; omega) (by have := HT.out; omega) B0.size ?_
         intro v1 w1 o1 g1
         have B1 : Below w.heap.size w w1 := B0.grown g1 B0.size (fun g hg => (O1.out.lt g hg).1)
         have z1 := B1.size)
      | (refine wpList_append_C num1_len _ rfl (.tmp 11) (.tmp 15) 37 rfl w.heap.size 3 i0 _ 8 Try.underlying37 hi0 hz0 hz1 hz2 rfl (by omega) v1 (0 + t1.length) _ rfl o1 _ t2 rfl (P2.out.below B1) N2.out (by intro a; simp [num1, Value.oneCell']) (by unfold maxLen; have := HT.out; have := HD.out; omega) (by have := HT.out; have := HD.out; omega) z1 ?_
         intro v3 w3 o3 g3))
    go_ret
    refine ⟨v3, rfl, ?_, B1.grown g3 z1 (fun g hg => (o1.lt g hg).1)⟩
    rw [num1_flat, num1_flat] at o3
    have e1 : (t1 ++ t2).length = 0 + t1.length + t2.length := by simp
    rw [e1, List.map_append]
    exact o3
end Go.Proofs.Ytlpcddmcddenfaa.Kp
