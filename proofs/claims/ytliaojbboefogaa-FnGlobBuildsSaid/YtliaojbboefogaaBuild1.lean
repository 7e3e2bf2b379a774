/- FnGlobBuilds: the law's walk. -/
import Derived.Test.YtliaojbboefogaaBuild0
import Derived.Deep.QuietTactic
namespace Go.Proofs.Ytliaojbboefogaa
open Go.RowKit Go.Lib

theorem zzBuild_calls (p s : ByteArray) (i0 i1 i2 i3 i4 : Nat) (w : World) (hp : p.size ≤ 2147483647) (hs : s.size ≤ 2147483647) (h0 : i0 ≤ i1) (h1 : i1 ≤ i2) (h2 : i2 ≤ i3) (h3 : i3 ≤ i4) (h4 : i4 ≤ s.size) :
    Calls Try.prog 10 #[.string p, .string s, .int .i64 i0, .int .i64 i1, .int .i64 i2, .int .i64 i3, .int .i64 i4] w fun e w' => e = .returned (.string (built p s i0 i1 i2 i3 i4)) ∧ Below w.heap.size w w' := by
  have H := Lib.hid (buildAlt_calls p s i0 i1 i2 i3 i4 w hp hs h0 h1 h2 h3 h4)
  clear h0 h1 h2 h3 h4 hp hs
  go_enter Try.func10, Try.ntmps10
  go_wp2_with fail
  refine H.out.mono ?_
  rintro e w1 ⟨rfl, hb⟩
  go_wp2
  go_ret
  exact ⟨rfl, hb⟩
theorem implBuild_calls (p s : ByteArray) (i0 i1 i2 i3 i4 : Nat) (w : World) (hp : p.size ≤ 2147483647) (hs : s.size ≤ 2147483647) (h0 : i0 ≤ i1) (h1 : i1 ≤ i2) (h2 : i2 ≤ i3) (h3 : i3 ≤ i4) (h4 : i4 ≤ s.size) :
    Calls Try.prog 5 #[.string p, .string s, .int .i64 i0, .int .i64 i1, .int .i64 i2, .int .i64 i3, .int .i64 i4] w fun e w' => e = .returned (.string (built p s i0 i1 i2 i3 i4)) ∧ Below w.heap.size w w' := by
  have H := Lib.hid (zzBuild_calls p s i0 i1 i2 i3 i4 w hp hs h0 h1 h2 h3 h4)
  clear h0 h1 h2 h3 h4 hp hs
  go_enter Try.func5, Try.ntmps5
  go_wp2_with fail
  refine H.out.mono ?_
  rintro e w1 ⟨rfl, hb⟩
  go_wp2
  go_ret
  exact ⟨rfl, hb⟩
theorem built_plain {p s : ByteArray} {i0 i1 i2 i3 i4 : Nat} (h : preL p = []) : built p s i0 i1 i2 i3 i4 = s.extract i0 i1 ++ s.extract i2 i3 ++ s.extract i4 s.size := by
  unfold built
  rw [h]
  apply ByteArray.ext
  rw [ByteArray.data_append, ByteArray.data_append]
  apply Array.ext'
  simp
theorem built_pre {p s : ByteArray} {i0 i1 i2 i3 i4 : Nat} (h : preL p = p.data.toList ++ [47]) : built p s i0 i1 i2 i3 i4 = p ++ ⟨#[47]⟩ ++ (s.extract i0 i1 ++ s.extract i2 i3 ++ s.extract i4 s.size) := by
  unfold built
  rw [h]
  apply ByteArray.ext
  rw [ByteArray.data_append, ByteArray.data_append, ByteArray.data_append, ByteArray.data_append]
  apply Array.ext'
  simp
theorem built_one : built ⟨#[97]⟩ ⟨#[98]⟩ 0 1 1 1 1 = ⟨#[97, 47, 98]⟩ := by
  have h0 : (⟨#[97]⟩ : ByteArray).toList = [97] := by
    unfold ByteArray.toList
    rw [ByteArray.toList.loop, ByteArray.toList.loop]
    simp [ByteArray.size, ByteArray.get!]
  have h : preL ⟨#[97]⟩ = [97, 47] := by
    unfold preL
    rw [h0]
    decide
  rw [built_pre (by rw [h]; rfl)]
  apply ByteArray.ext
  decide
/-- what stands ahead of a place, of five. -/
def prev5 (a0 a1 a2 a3 a4 : Int) (k : Nat) : Int := if k = 0 then 0 else if k = 1 then a0 else if k = 2 then a1 else if k = 3 then a2 else if k = 4 then a3 else a4
/-- the first k rise, and end within n. -/
def good5 (a0 a1 a2 a3 a4 n : Int) (k : Nat) : Prop := (1 ≤ k → 0 ≤ a0 ∧ a0 ≤ n) ∧ (2 ≤ k → a0 ≤ a1 ∧ a1 ≤ n) ∧ (3 ≤ k → a1 ≤ a2 ∧ a2 ≤ n) ∧ (4 ≤ k → a2 ≤ a3 ∧ a3 ≤ n) ∧ (5 ≤ k → a3 ≤ a4 ∧ a4 ≤ n)
set_option maxRecDepth 100000 in
set_option maxHeartbeats 3200000 in
theorem builds_calls (p s : ByteArray) (a0 a1 a2 a3 a4 : Int) (w : World) :
    Calls Try.prog 3 #[.string p, .string s, .agg #[.int .i64 a0, .int .i64 a1, .int .i64 a2, .int .i64 a3, .int .i64 a4]] w fun e w' => e = .returned (.bool true) ∧ Below w.heap.size w w' := by
  have ustr : Try.prog.underlying 9 = some .string := Try.underlying9
  have x0 : ∀ w : World, (Instr.index 22 (.agg #[.int .i64 a0, .int .i64 a1, .int .i64 a2, .int .i64 a3, .int .i64 a4]) (.int .i64 0)).run Try.prog w = .ok (.int .i64 a0) w := fun _ => by kernel_rfl
  have x1 : ∀ w : World, (Instr.index 22 (.agg #[.int .i64 a0, .int .i64 a1, .int .i64 a2, .int .i64 a3, .int .i64 a4]) (.int .i64 1)).run Try.prog w = .ok (.int .i64 a1) w := fun _ => by kernel_rfl
  have x2 : ∀ w : World, (Instr.index 22 (.agg #[.int .i64 a0, .int .i64 a1, .int .i64 a2, .int .i64 a3, .int .i64 a4]) (.int .i64 2)).run Try.prog w = .ok (.int .i64 a2) w := fun _ => by kernel_rfl
  have x3 : ∀ w : World, (Instr.index 22 (.agg #[.int .i64 a0, .int .i64 a1, .int .i64 a2, .int .i64 a3, .int .i64 a4]) (.int .i64 3)).run Try.prog w = .ok (.int .i64 a3) w := fun _ => by kernel_rfl
  have x4 : ∀ w : World, (Instr.index 22 (.agg #[.int .i64 a0, .int .i64 a1, .int .i64 a2, .int .i64 a3, .int .i64 a4]) (.int .i64 4)).run Try.prog w = .ok (.int .i64 a4) w := fun _ => by kernel_rfl
  by_cases b1 : (p.size : Int) ≤ 2147483647
  case neg =>
    go_enter Try.func3, Try.ntmps3
    go_wp2
    go_ret
    exact ⟨rfl, (Below.refl _ _).alloc (Nat.le_refl _) _⟩
  by_cases b2 : (s.size : Int) ≤ 2147483647
  case neg =>
    go_enter Try.func3, Try.ntmps3
    go_wp2
    go_ret
    exact ⟨rfl, (Below.refl _ _).alloc (Nat.le_refl _) _⟩
  go_enter Try.func3, Try.ntmps3
  go_wp2_with fail
  have N1 := Blk.new w #[.int .i64 a0, .int .i64 a1, .int .i64 a2, .int .i64 a3, .int .i64 a4] 22
  have B1 : Below w.heap.size w (w.alloc (Obj.cells #[.int .i64 a0, .int .i64 a1, .int .i64 a2, .int .i64 a3, .int .i64 a4] 22)) := (Below.refl _ _).alloc (Nat.le_refl _) _
  generalize w.alloc (Obj.cells #[.int .i64 a0, .int .i64 a1, .int .i64 a2, .int .i64 a3, .int .i64 a4] 22) = w1 at *
  go_loopw [7, 20] (fun l i wr => ∃ k : Nat, k ≤ 5 ∧ i = .int .i64 k ∧ l = .int .i64 (prev5 a0 a1 a2 a3 a4 k) ∧ wr = w1 ∧ Hid (good5 a0 a1 a2 a3 a4 s.size k)) (fun _ i _ => 5 - (intOf i).toNat)
  case atStart => exact ⟨0, by omega, rfl, rfl, rfl, ⟨by omega, by omega, by omega, by omega, by omega⟩⟩
  case round =>
    obtain ⟨k, hk, rfl, rfl, rfl, hg⟩ := hrel
    have hk : k = 0 ∨ k = 1 ∨ k = 2 ∨ k = 3 ∨ k = 4 ∨ k = 5 := by omega
    rcases hk with rfl | rfl | rfl | rfl | rfl | rfl
    case' inr.inr.inr.inr.inr =>
      obtain ⟨z0, z1, z2, z3, z4⟩ := hg.out
      replace z0 := z0 (by omega)
      replace z1 := z1 (by omega)
      replace z2 := z2 (by omega)
      replace z3 := z3 (by omega)
      replace z4 := z4 (by omega)
      clear hg
      obtain ⟨i0, rfl⟩ := Int.eq_ofNat_of_zero_le z0.1
      obtain ⟨i1, rfl⟩ := Int.eq_ofNat_of_zero_le (Int.le_trans z0.1 z1.1)
      obtain ⟨i2, rfl⟩ := Int.eq_ofNat_of_zero_le (Int.le_trans (Int.le_trans z0.1 z1.1) z2.1)
      obtain ⟨i3, rfl⟩ := Int.eq_ofNat_of_zero_le (Int.le_trans (Int.le_trans (Int.le_trans z0.1 z1.1) z2.1) z3.1)
      obtain ⟨i4, rfl⟩ := Int.eq_ofNat_of_zero_le (Int.le_trans (Int.le_trans (Int.le_trans (Int.le_trans z0.1 z1.1) z2.1) z3.1) z4.1)
      have c0 : wr.cell? ⟨w.heap.size, 0, none⟩ = some (.int .i64 i0) := N1.cell 0
      have c1 : wr.cell? ⟨w.heap.size, 1, none⟩ = some (.int .i64 i1) := N1.cell 1
      have c2 : wr.cell? ⟨w.heap.size, 2, none⟩ = some (.int .i64 i2) := N1.cell 2
      have c3 : wr.cell? ⟨w.heap.size, 3, none⟩ = some (.int .i64 i3) := N1.cell 3
      have c4 : wr.cell? ⟨w.heap.size, 4, none⟩ = some (.int .i64 i4) := N1.cell 4
      have HN := Lib.hid N1
      clear N1 x0 x1 x2 x3 x4
      have p0 : (0 : Int) ≤ (i0 : Int) := by omega
      have p1 : (i0 : Int) ≤ (i1 : Int) := by omega
      have p2 : (i1 : Int) ≤ (s.size : Int) := by omega
      have p3 : (0 : Int) ≤ (i2 : Int) := by omega
      have p4 : (i2 : Int) ≤ (i3 : Int) := by omega
      have p5 : (i3 : Int) ≤ (s.size : Int) := by omega
      have p6 : (0 : Int) ≤ (i4 : Int) := by omega
      have p7 : (i4 : Int) ≤ (s.size : Int) := by omega
      have HC := Lib.hid (implBuild_calls p s i0 i1 i2 i3 i4)
      have HZ := Lib.hid (And.intro z1 (And.intro z2 (And.intro z3 z4)))
      clear z0 z1 z2 z3 z4
      go_wp2_with fail
      go_quiet (fail)
      rcases pre_cases p with ⟨hA, hP⟩ | ⟨hA, hB, hP⟩ | ⟨hA, hB, hP⟩
      all_goals
        have HP := Lib.hid hP
        clear hP
        go_wp2_with fail
        have h01 : i0 ≤ i1 := by omega
        have h12 : i1 ≤ i2 := by have := HZ.out; omega
        have h23 : i2 ≤ i3 := by omega
        have h34 : i3 ≤ i4 := by have := HZ.out; omega
        refine (HC.out _ (by omega) (by omega) (by omega) (by omega) (by omega) (by omega) (by omega)).mono ?_
        rintro e w2 ⟨rfl, hb2⟩
        have H1 : Hid (Calls Try.prog 5 #[.string ⟨#[97]⟩, .string ⟨#[98]⟩, .int .i64 0, .int .i64 1, .int .i64 1, .int .i64 1, .int .i64 1] w2 fun e w' => e = .returned (.string ⟨#[97, 47, 98]⟩) ∧ Below w2.heap.size w2 w') := by
          rw [← built_one]
          exact implBuild_calls ⟨#[97]⟩ ⟨#[98]⟩ 0 1 1 1 1 w2 (by decide) (by decide) (by decide) (by decide) (by decide) (by decide) (by decide)
        first | rw [built_plain HP.out] | rw [built_pre HP.out]
        clear h01 h12 h23 h34
        go_wp2_with fail
        refine H1.out.mono ?_
        rintro e w3 ⟨rfl, hb3⟩
        go_wp2_with fail
        go_ret
        exact ⟨rfl, (B1.trans (Below.drewN _ nq)).trans ((hb2.mono B1.size).trans (hb3.mono (Nat.le_trans B1.size hb2.size)))⟩
    all_goals
      simp only [prev5]
      go_wp2_with fail
      all_goals first
        | (go_ret; exact ⟨rfl, B1⟩)
        | exact ⟨⟨1, by omega, by rfl, by rfl, trivial, (show good5 _ _ _ _ _ _ _ by have := hg.out; unfold good5 at *; omega)⟩, by decide⟩
        | exact ⟨⟨2, by omega, by rfl, by rfl, trivial, (show good5 _ _ _ _ _ _ _ by have := hg.out; unfold good5 at *; omega)⟩, by decide⟩
        | exact ⟨⟨3, by omega, by rfl, by rfl, trivial, (show good5 _ _ _ _ _ _ _ by have := hg.out; unfold good5 at *; omega)⟩, by decide⟩
        | exact ⟨⟨4, by omega, by rfl, by rfl, trivial, (show good5 _ _ _ _ _ _ _ by have := hg.out; unfold good5 at *; omega)⟩, by decide⟩
        | exact ⟨⟨5, by omega, by rfl, by rfl, trivial, (show good5 _ _ _ _ _ _ _ by have := hg.out; unfold good5 at *; omega)⟩, by decide⟩
end Go.Proofs.Ytliaojbboefogaa
