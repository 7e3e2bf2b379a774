/- heap.up: what it makes of a row. -/
import Derived.Test.YtinajjceojfflaaHeap0
namespace Go.Proofs.Ytinajjceojfflaa
open Go.RowKit HeapP

set_option maxRecDepth 100000 in
set_option maxHeartbeats 3200000 in
theorem up_calls (ts : List Int) (f : Value) (B0 B g cap : Nat) (xs : List Int) (i0 : Nat) (w : World) (hf : LessOk w B0 f ts) (hg : B0 ≤ g) (hO : OwnI w B g cap xs) (hn : xs.length ≤ 1000000000000) (hi : i0 < xs.length) :
    Calls Try.prog 99 #[.slice (some ⟨g, 0, none⟩) xs.length cap, .int .i64 i0, f] w fun e w' => e = .returned (.tuple #[]) ∧ OwnI w' B g cap (upP (rankOf ts) i0 xs i0) ∧ Fr [g] w w' := by
  obtain ⟨tb, tv, rfl, k1, k2, k3⟩ := hf
  have HF := Lib.hid (And.intro k1 (And.intro k2 k3))
  have HO := Lib.hid hO
  have HG := Lib.hid hg
  clear k1 k2 k3 hO hg
  go_enter Try.func99, Try.ntmps99
  go_wp2_with fail
  go_loopw [1] (fun i wr => ∃ (k fu : Nat) (cur : List Int), k < cur.length ∧ i = .int .i64 k ∧ cur.length = xs.length ∧ Hid (upP (rankOf ts) fu cur k = upP (rankOf ts) i0 xs i0 ∧ k ≤ fu ∧ OwnI wr B g cap cur ∧ Fr [g] w wr)) (fun i _ => (intOf i).toNat)
  case atStart => exact ⟨i0, i0, xs, hi, rfl, rfl, ⟨rfl, Nat.le_refl _, HO.out, Fr.refl _ _⟩⟩
  case round =>
    obtain ⟨k, fu, cur, hk, rfl, hl, HK⟩ := hrel
    have hfu := HK.out.2.1
    by_cases c0 : k = 0
    · subst c0
      go_wp2_with fail
      refine region_runs (S := (fun w' => w' = wr.drew)) (by kernel_rfl) (by kernel_rfl) (by kernel_rfl) rfl ?_
      iterate 15
        first
        | (refine Runs.off (by rfl) ?_
           simp only [Act.put, List.setIfInBounds_toArray, List.set_cons_zero, List.set_cons_succ])
        | (refine Runs.take (v := ?_) (by rfl) ?_ ?_
           rotate_left 1
           · intro w hSw; (try dsimp only at hSw); go_simp; (try with_reducible rfl)
           simp only [Act.put, List.setIfInBounds_toArray, List.set_cons_zero, List.set_cons_succ])
        | fail
      dsimp only [Runs]
      intro w' hw
      subst hw
      go_wp2_with fail
      go_end0
      have h := HK.out
      rw [upP_zero] at h
      rw [← h.1]
      exact ⟨rfl, h.2.2.1.drewN 1, h.2.2.2.comp (Fr.drewN [g] wr 1)⟩
    · obtain ⟨j, hj⟩ : ∃ j, (k - 1) / 2 = j := ⟨_, rfl⟩
      have x0 := HK.out.2.2.1.cell (i := k) hk
      have xj := HK.out.2.2.1.cell (i := j) (by omega)
      have HK1 := Lib.hid HK.out.1
      have HJ := Lib.hid hj
      have e1 : (k : Int) - 1 = ((k - 1 : Nat) : Int) := by omega
      have e2 : ((k - 1 : Nat) : Int) / 2 = (j : Int) := by omega
      have e3 : ((k : Int) == 0) = false := by simpa using c0
      have hgl : g < w.heap.size := by obtain ⟨cur, h2, _⟩ := HO.out.blk; exact h2.lt
      have hb : Below B0 w wr := HK.out.2.2.2.below (by simpa using HG.out) (by have := HG.out; omega)
      have q2 : wr.cell? ⟨tb, 0, none⟩ = some tv := (hb.cell (p := ⟨tb, 0, none⟩) HF.out.1).trans HF.out.2.1
      have HS := Lib.hid (HF.out.2.2.below hb)
      have r0 : (0 : Int) ≤ (j : Int) := by omega
      have r1 : (j : Int) < (xs.length : Int) := by omega
      have r2 : (0 : Int) ≤ (k : Int) := by omega
      have r3 : (k : Int) < (xs.length : Int) := by omega
      have HL := Lib.hid hl
      clear hb hgl hj hl
      by_cases c4 : ltB ts (getI cur k) (getI cur j) = true
      · obtain ⟨fu', hf1, hf2⟩ := upP_go (r := rankOf ts) c0 hfu (by rw [HJ.out]; exact (ltB_iff _ _ _).1 c4)
        rw [HJ.out] at hf2
        have HF2 := Lib.hid (And.intro hf1 hf2)
        have HC0 := Lib.hid c0
        clear hf1 hf2 c0
        go_wp2_with fail
        go_quiet ((go_at_call 76; exact Calls.quiet_of (less_calls ts tb tv B0 _ _ _ (by exact q2) (HS.out.drewN _))))
        rw [c4]
        have O2 := Lib.hid (HK.out.2.2.1.drewN nq)
        have F2 := Lib.hid (HK.out.2.2.2.comp (Fr.drewN [g] wr nq))
        have y0 : (wr.drewN nq).cell? ⟨g, k, none⟩ = some (.int .i64 (getI cur k)) := x0
        have yj : (wr.drewN nq).cell? ⟨g, j, none⟩ = some (.int .i64 (getI cur j)) := xj
        have fz := fun a => O2.out.frozen a
        clear x0 xj q2 HS HK
        generalize wr.drewN nq = W2 at *
        go_wp2_with fail
        go_region_with (fail)
        all_goals
          go_wp2_with fail
          have hl := HL.out
          have hj := HJ.out
          have hc := HC0.out
          refine ⟨⟨j, fu', swapL cur k j, by rw [swapL_len]; omega, rfl, by rw [swapL_len]; exact hl, ?_⟩, by simp [intOf]; omega⟩
          have hO2 := O2.out.swap (i := k) (j := j) hk (by omega)
          have hF2 := (F2.out.comp (Fr.setCell W2 g k (.int .i64 (getI cur j)) (by simp))).comp (Fr.setCell (W2.setCell ⟨g, k, none⟩ (.int .i64 (getI cur j))) g j (.int .i64 (getI cur k)) (by simp))
          exact ⟨by rw [← HF2.out.2]; exact HK1.out, by have := HF2.out.1; omega, hO2.drewN 1, hF2.comp (Fr.drewN _ _ 1)⟩
      · have hr := upP_rest (r := rankOf ts) (xs := cur) (f := fu) (k := k) (by rw [HJ.out]; exact fun h => c4 ((ltB_iff _ _ _).2 h))
        have HR := Lib.hid hr
        have c4' : ltB ts (getI cur k) (getI cur j) = false := by simpa using c4
        clear hr c4
        go_wp2_with fail
        go_quiet ((go_at_call 76; exact Calls.quiet_of (less_calls ts tb tv B0 _ _ _ (by exact q2) (HS.out.drewN _))))
        rw [c4']
        go_wp2_with fail
        go_end0
        have h1 := HK1.out
        rw [HR.out] at h1
        rw [← h1]
        exact ⟨rfl, HK.out.2.2.1.drewN nq, HK.out.2.2.2.comp (Fr.drewN [g] wr nq)⟩
end Go.Proofs.Ytinajjceojfflaa
