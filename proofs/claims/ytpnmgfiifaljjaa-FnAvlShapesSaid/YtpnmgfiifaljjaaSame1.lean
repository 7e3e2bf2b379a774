/- laws.shapeSame, laws.treeSame: of what is the same. -/
import Derived.Test.YtpnmgfiifaljjaaSame
import Derived.Test.YtpnmgfiifaljjaaGrow1
namespace Go.Proofs.Ytpnmgfiifaljjaa
open Go.RowKit

set_option maxRecDepth 100000 in
set_option maxHeartbeats 800000 in
theorem shapeSame_calls (l : List BrD) (av bv : Value) (B B' : Nat) (w : World) (ha : SlC 5 brCells w B av l) (hb : SlC 5 brCells w B' bv l) (hn : l.length ≤ 9223372036854775807) :
    Calls Try.prog 9 #[av, bv] w fun e w' => e = .returned (.bool true) ∧ ∃ n, w' = w.drewN n := by
  obtain ⟨A, c, rfl⟩ := ha.form
  obtain ⟨A2, c2, rfl⟩ := hb.form
  have HA := Lib.hid ha
  have HB := Lib.hid hb
  clear ha hb
  have hne : ((l.length : Int) != (l.length : Int)) = false := by simp
  go_enter Try.func9, Try.ntmps9
  go_wp2_with fail
  clear hne
  go_loopw [5] (fun i wr => ∃ k n : Nat, k ≤ l.length ∧ i = .int .i64 k ∧ wr = w.drewN n) (fun i _ => l.length - (intOf i).toNat)
  case atStart => exact ⟨0, 0, Nat.zero_le _, rfl, rfl⟩
  case round =>
    obtain ⟨k, n, hk, rfl, rfl⟩ := hrel
    by_cases hlt : k < l.length
    · obtain ⟨b, off, a, rfl, g1, g3, g4, g5, z⟩ := HA.out.at_ hlt
      obtain ⟨b2, off2, a2, rfl, g1', g3', g4', g5', z'⟩ := HB.out.at_ hlt
      rw [g5] at g5'
      cases g5'
      obtain ⟨key, val, ht, bl, br⟩ := a
      have q0 := z 0 _ rfl
      have q1 := z 1 _ rfl
      have q2 := z 2 _ rfl
      have q3 := z 3 _ rfl
      have q4 := z 4 _ rfl
      have r0 := z' 0 _ rfl
      have r1 := z' 1 _ rfl
      have r2 := z' 2 _ rfl
      have r3 := z' 3 _ rfl
      have r4 := z' 4 _ rfl
      simp only [Nat.add_zero] at q0 r0
      have p0 : (0 : Int) ≤ (k : Int) := by omega
      have p1 : (k : Int) < (l.length : Int) := by omega
      have e0 : (key != key) = false := by simp
      have e1 : (val != val) = false := by simp
      have e2 : (ht != ht) = false := by simp
      have e3 : (bl != bl) = false := by simp
      have e4 : (br != br) = false := by simp
      clear z z' g5
      go_wp2_with fail
      go_quiet (fail)
      go_wp2_with fail
      exact ⟨⟨k + 1, _, by omega, by go_num, rfl⟩, by simp [intOf]; omega⟩
    · have e : k = l.length := by omega
      subst e
      go_wp2_with fail
      go_ret
      exact ⟨rfl, _, rfl⟩
theorem sameEq_calls (xs : List Int) (av bv : Value) (B B' : Nat) (w : World) (ha : SlI w B av xs) (hb : SlI w B' bv xs) (hn : xs.length ≤ 9223372036854775807) :
    Calls Try.prog 17 #[av, bv] w fun e w' => e = .returned (.bool true) ∧ ∃ n, w' = w.drewN n :=
  (same_calls xs xs av bv B B' w ha hb hn).mono fun _ _ h => by simpa using h
set_option maxHeartbeats 800000 in
theorem treeSame_calls (d : ToldD) (ka va ka2 va2 : Option Addr) (kc vc kc2 vc2 B : Nat) (w : World) (hB : B ≤ w.heap.size) (h1 : SlI w B (.slice ka d.keys.length kc) d.keys) (h2 : SlI w B (.slice va d.vals.length vc) d.vals)
    (h3 : SlI w B (.slice ka2 d.keys.length kc2) d.keys) (h4 : SlI w B (.slice va2 d.vals.length vc2) d.vals) (hk : d.keys.length ≤ 9223372036854775807) (hv : d.vals.length ≤ 9223372036854775807) :
    Calls Try.prog 19 #[.agg #[.int .i64 d.val, .bool d.ok, .slice ka d.keys.length kc, .slice va d.vals.length vc], .agg #[.int .i64 d.val, .bool d.ok, .slice ka2 d.keys.length kc2, .slice va2 d.vals.length vc2]] w fun e w' => e = .returned (.bool true) ∧ Below w.heap.size w w' := by
  obtain ⟨n, ok, ks, vs⟩ := d
  simp only at *
  have H1 := Lib.hid h1
  have H2 := Lib.hid h2
  have H3 := Lib.hid h3
  have H4 := Lib.hid h4
  have HS1 := Lib.hid (fun W (hb : Below B w W) => sameEq_calls ks _ _ B B W (h1.below hb) (h3.below hb) hk)
  have HS2 := Lib.hid (fun W (hb : Below B w W) => sameEq_calls vs _ _ B B W (h2.below hb) (h4.below hb) hv)
  clear h1 h2 h3 h4
  have e0 : (n == n) = true := by simp
  have e1 : (ok == ok) = true := by simp
  go_enter Try.func19, Try.ntmps19
  go_wp2_with fail
  have B2 : Below w.heap.size w ((w.alloc (Obj.cells #[.int .i64 n, .bool ok, .slice ka ks.length kc, .slice va vs.length vc] 33)).alloc (Obj.cells #[.int .i64 n, .bool ok, .slice ka2 ks.length kc2, .slice va2 vs.length vc2] 33)) := ((Below.refl _ w).alloc (Nat.le_refl _) _).alloc (by simp) _
  refine (HS1.out _ (B2.mono hB)).mono ?_
  rintro e w1 ⟨rfl, n1, rfl⟩
  go_wp2_with fail
  refine (HS2.out _ ((B2.trans (Below.drewN _ n1)).mono hB)).mono ?_
  rintro e w1 ⟨rfl, n2, rfl⟩
  go_wp2_with fail
  go_ret
  exact ⟨rfl, B2.trans (Below.drewN _ _)⟩
end Go.Proofs.Ytpnmgfiifaljjaa
