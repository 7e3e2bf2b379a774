/- heap.down and heap.up: what they make of a row. -/
import Derived.Test.YtinajjceojfflaaRank
import Derived.Test.YtinajjceojfflaaRow
import Derived.Test.YtinajjceojfflaaHeapP
import Derived.Deep.QuietTactic
import Derived.Deep.RegionWith
import Derived.Deep.LoopGhost
import Derived.Test.YtinajjceojfflaaReg
import Derived.Deep.Cut
namespace Go.Proofs.Ytinajjceojfflaa
open Go.RowKit HeapP

/-- a row of ints of one's own, at a block's head. -/
def OwnI (w : World) (B g cap : Nat) (xs : List Int) : Prop := w.ownsRow B 3 1 (.slice (some ⟨g, 0, none⟩) xs.length cap) xs.length (xs.map i64v)
theorem OwnI.blk {w : World} {B g cap : Nat} {xs : List Int} (h : OwnI w B g cap xs) : ∃ cur : Array Value, Blk w g cur 3 ∧ B ≤ g ∧ xs.length ≤ cap ∧ cap ≤ maxLen ∧ cur.size = cap ∧ cur.toList.take xs.length = xs.map i64v := by
  rcases h.2 with ⟨e, _⟩ | ⟨g', cap', cur, e, h1, h2, h3, h4, h5, h6⟩
  · cases e
  · cases e
    exact ⟨cur, h2, h1, h3, h4, by simpa using h5, by simpa using h6⟩
theorem OwnI.mk {w : World} {B g cap : Nat} {xs : List Int} {cur : Array Value} (h2 : Blk w g cur 3) (h1 : B ≤ g) (h3 : xs.length ≤ cap) (h4 : cap ≤ maxLen) (h5 : cur.size = cap) (h6 : cur.toList.take xs.length = xs.map i64v) : OwnI w B g cap xs :=
  ⟨by simp, .inr ⟨g, cap, cur, rfl, h1, h2, h3, h4, by simpa using h5, by simpa using h6⟩⟩
theorem OwnI.cell {w : World} {B g cap : Nat} {xs : List Int} (h : OwnI w B g cap xs) {i : Nat} (hi : i < xs.length) : w.cell? ⟨g, i, none⟩ = some (.int .i64 (getI xs i)) := by
  obtain ⟨cur, h2, _, _, _, _, h6⟩ := h.blk
  have h7 : (xs.map i64v)[i]? = some (i64v xs[i]) := by rw [List.getElem?_map, List.getElem?_eq_getElem hi]; rfl
  rw [← h6, List.getElem?_take_of_lt hi] at h7
  rw [h2.cell i]
  have : cur[i]? = some (i64v xs[i]) := by simpa using h7
  rw [this]
  unfold getI
  rw [List.getD_eq_getElem?_getD, List.getElem?_eq_getElem hi]; rfl
theorem OwnI.frozen {w : World} {B g cap : Nat} {xs : List Int} (h : OwnI w B g cap xs) (i : Nat) : w.frozen? ⟨g, i, none⟩ = false := by
  obtain ⟨cur, h2, _⟩ := h.blk
  exact h2.frozen i
theorem OwnI.set {w : World} {B g cap : Nat} {xs : List Int} (h : OwnI w B g cap xs) {i : Nat} (hi : i < xs.length) (v : Int) : OwnI (w.setCell ⟨g, i, none⟩ (.int .i64 v)) B g cap (xs.set i v) := by
  obtain ⟨cur, h2, h1, h3, h4, h5, h6⟩ := h.blk
  refine OwnI.mk (h2.set i _) h1 (by simpa using h3) h4 (by simpa using h5) ?_
  rw [List.length_set, List.map_set, ← h6]
  simp [List.take_set]
theorem OwnI.fr {w w' : World} {B g cap : Nat} {xs : List Int} (h : OwnI w B g cap xs) {S : List Nat} (hf : Fr S w w') (hn : g ∉ S) : OwnI w' B g cap xs := by
  obtain ⟨cur, h2, h1, h3, h4, h5, h6⟩ := h.blk
  exact OwnI.mk (h2.fr hf hn) h1 h3 h4 h5 h6
theorem OwnI.drewN {w : World} {B g cap : Nat} {xs : List Int} (h : OwnI w B g cap xs) (n : Nat) : OwnI (w.drewN n) B g cap xs := h.fr (Fr.drewN [] w n) (by simp)
theorem OwnI.swap {w : World} {B g cap : Nat} {xs : List Int} (h : OwnI w B g cap xs) {i j : Nat} (hi : i < xs.length) (hj : j < xs.length) : OwnI ((w.setCell ⟨g, i, none⟩ (.int .i64 (getI xs j))).setCell ⟨g, j, none⟩ (.int .i64 (getI xs i))) B g cap (swapL xs i j) := (h.set hi _).set (by simpa using hj) _
theorem ltB_iff (ts : List Int) (a b : Int) : ltB ts a b = true ↔ rankOf ts a < rankOf ts b := by simp [ltB]
theorem LessOk.fr {w w' : World} {B : Nat} {f : Value} {xs : List Int} (h : LessOk w B f xs) {S : List Nat} (hf : Fr S w w') (hS : ∀ x ∈ S, B ≤ x) (hB : B ≤ w.heap.size) : LessOk w' B f xs := h.below (hf.below hS hB)
/-- an order that stays where the block g is written. -/
def LessG (w : World) (B g : Nat) (f : Value) (ts : List Int) : Prop :=
  ∃ tb tv, f = .func (.func 76) #[] #[.pointer (some ⟨tb, 0, none⟩)] ∧ tb ≠ g ∧ w.cell? ⟨tb, 0, none⟩ = some tv ∧ SlR w B tv (ts.map i64v) ∧ B ≤ g
theorem LessOk.toG {w : World} {B g : Nat} {f : Value} {ts : List Int} (h : LessOk w B f ts) (hg : B ≤ g) : LessG w B g f ts := by
  obtain ⟨tb, tv, e, k1, k2, k3⟩ := h
  exact ⟨tb, tv, e, by omega, k2, k3, hg⟩
set_option maxRecDepth 100000 in
set_option maxHeartbeats 3200000 in
theorem down_callsG (ts : List Int) (f : Value) (B0 B g cap : Nat) (xs : List Int) (i0 : Nat) (w : World) (hf : LessG w B0 g f ts) (hO : OwnI w B g cap xs) (hn : xs.length ≤ 1000000000000) (hi : i0 ≤ 1000000000000) :
    Calls Try.prog 75 #[.slice (some ⟨g, 0, none⟩) xs.length cap, .int .i64 i0, f] w fun e w' => e = .returned (.tuple #[]) ∧ OwnI w' B g cap (downP (rankOf ts) xs.length xs i0) ∧ Fr [g] w w' := by
  obtain ⟨tb, tv, rfl, k1, k2, k3, hg⟩ := hf
  have HF := Lib.hid (And.intro k1 (And.intro k2 k3))
  have HO := Lib.hid hO
  have HG := Lib.hid hg
  clear k1 k2 k3 hO hg
  go_enter Try.func75, Try.ntmps75
  go_wp2_with fail
  go_loopw [1] (fun i wr => ∃ (k fu : Nat) (cur : List Int), k ≤ 1000000000000 ∧ i = .int .i64 k ∧ cur.length = xs.length ∧ Hid (downP (rankOf ts) fu cur k = downP (rankOf ts) xs.length xs i0 ∧ cur.length ≤ fu + k ∧ OwnI wr B g cap cur ∧ Fr [g] w wr)) (fun i _ => 2000000000000 - (intOf i).toNat)
  case atStart => exact ⟨i0, xs.length, xs, hi, rfl, rfl, ⟨rfl, by omega, HO.out, Fr.refl _ _⟩⟩
  case round =>
    obtain ⟨k, fu, cur, hk, rfl, hl, HK⟩ := hrel
    have hfu := HK.out.2.1
    by_cases c1 : (xs.length : Int) ≤ 2 * (k : Int) + 1
    · go_wp2_with fail
      go_end0
      have h := HK.out
      rw [downP_stop (by omega)] at h
      rw [← h.1]
      exact ⟨rfl, h.2.2.1, h.2.2.2⟩
    · have hc2 : ¬ cur.length ≤ 2 * k + 1 := by omega
      have p0 : (0 : Int) ≤ 2 * (k : Int) + 1 := by omega
      have p1 : 2 * (k : Int) + 1 < (xs.length : Int) := by omega
      have p2 : (0 : Int) ≤ 2 * (k : Int) + 2 := by omega
      have p3 : (0 : Int) ≤ (k : Int) := by omega
      have p4 : (k : Int) < (xs.length : Int) := by omega
      have n1 : (2 * (k : Int) + 1).toNat = 2 * k + 1 := by omega
      have n2 : (2 * (k : Int) + 2).toNat = 2 * k + 2 := by omega
      have x1 := HK.out.2.2.1.cell (i := 2 * k + 1) (by omega)
      have x0 := HK.out.2.2.1.cell (i := k) (by omega)
      have hgl : g < w.heap.size := by obtain ⟨cur, h2, _⟩ := HO.out.blk; exact h2.lt
      have hb : Below B0 w wr := HK.out.2.2.2.below (by simpa using HG.out) (by have := HG.out; omega)
      have q2 : wr.cell? ⟨tb, 0, none⟩ = some tv := HK.out.2.2.2.cell HF.out.2.1 (by simpa using HF.out.1)
      have HS := Lib.hid (HF.out.2.2.below hb)
      clear hb hgl
      obtain ⟨j, hj⟩ : ∃ j, kidOf (rankOf ts) cur k = j := ⟨_, rfl⟩
      have hjl := kidOf_lt (r := rankOf ts) (xs := cur) (i := k) (by omega)
      rw [hj] at hjl
      have HJ := Lib.hid hj
      have HJL := Lib.hid hjl
      clear hj hjl
      by_cases c2 : 2 * (k : Int) + 2 < (xs.length : Int)
      case' pos =>
        have x2 := HK.out.2.2.1.cell (i := 2 * k + 2) (by omega)
        go_wp2_with fail
        go_quiet ((go_at_call 76; exact Calls.quiet_of (less_calls ts tb tv B0 _ _ _ (by exact q2) (HS.out.drewN _))))
        go_upto_if 39 with (fail)
        go_cut [8] (fun s8 wc => s8 = .int .i64 (j : Nat) ∧ ∃ n, wc = wr.drewN n)
        case' first =>
          by_cases c3 : ltB ts (getI cur (2 * k + 2)) (getI cur (2 * k + 1)) = true
          · have e : j = 2 * k + 2 := by rw [← HJ.out, kidOf_right (by omega) ((ltB_iff _ _ _).1 c3)]
            have E := Lib.hid e
            clear e
            rw [c3]
            go_wp2_with fail
            go_meet
            exact ⟨by rw [E.out]; go_num, _, rfl⟩
          · have e : j = 2 * k + 1 := by rw [← HJ.out, kidOf_left (fun _ h => c3 ((ltB_iff _ _ _).2 h))]
            have c3' : ltB ts (getI cur (2 * k + 2)) (getI cur (2 * k + 1)) = false := by simpa using c3
            have E := Lib.hid e
            clear e c3
            rw [c3']
            go_wp2_with fail
            go_meet
            exact ⟨by rw [E.out]; go_num, _, rfl⟩
      case' neg =>
        have HC2 := Lib.hid c2
        have cd : decide (2 * (k : Int) + 2 < (xs.length : Int)) = false := decide_eq_false c2
        go_wp2_with fail
        refine region_runs (S := (fun w' => w' = wr.drew)) (by kernel_rfl) (by kernel_rfl) (by kernel_rfl) rfl ?_
        iterate 16
          first
          | (refine Runs.off (by rfl) ?_
             simp only [Act.put, List.setIfInBounds_toArray, List.set_cons_zero, List.set_cons_succ])
          | (refine Runs.take (v := ?_) (by rfl) ?_ ?_
             rotate_left 1
             · intro w hSw; (try dsimp only at hSw); go_simp; (try with_reducible rfl)
             simp only [Act.put, List.setIfInBounds_toArray, List.set_cons_zero, List.set_cons_succ])
          | fail
        dsimp only [Runs]
        intro w' hw
        subst hw
        go_upto_if 39 with (fail)
        go_cut [8] (fun s8 wc => s8 = .int .i64 (j : Nat) ∧ ∃ n, wc = wr.drewN n)
        case' first =>
          have e : j = 2 * k + 1 := by rw [← HJ.out, kidOf_left (fun h => absurd h (by have := HC2.out; omega))]
          have E := Lib.hid e
          clear e
          go_wp2_with fail
          go_meet
          exact ⟨by rw [E.out]; go_num, 1, rfl⟩
      all_goals
        obtain ⟨rfl, n, ew⟩ := hcut
        rw [ew]
        clear ew
        obtain ⟨j1, j2, j3, j4⟩ := HJL.out
        have xj := HK.out.2.2.1.cell (i := j) j1
        have r0 : (0 : Int) ≤ (j : Int) := by omega
        have r1 : (j : Int) < (xs.length : Int) := by omega
        clear n1 n2 x1
        have O1 := Lib.hid (HK.out.2.2.1.drewN n)
        have F1 := Lib.hid (HK.out.2.2.2.comp (Fr.drewN [g] wr n))
        replace HS := Lib.hid (HS.out.drewN n)
        replace q2 : (wr.drewN n).cell? ⟨tb, 0, none⟩ = some tv := q2
        replace x0 : (wr.drewN n).cell? ⟨g, k, none⟩ = some (.int .i64 (getI cur k)) := x0
        replace xj : (wr.drewN n).cell? ⟨g, j, none⟩ = some (.int .i64 (getI cur j)) := xj
        have HK1 := Lib.hid HK.out.1
        try clear x2
        clear HK
        generalize wr.drewN n = W1 at *
        by_cases c4 : ltB ts (getI cur j) (getI cur k) = true
        · obtain ⟨fu', hf1, hf2⟩ := downP_go (r := rankOf ts) hc2 hfu (by rw [HJ.out]; exact (ltB_iff _ _ _).1 c4)
          rw [HJ.out] at hf2
          have HF2 := Lib.hid (And.intro hf1 hf2)
          clear hf1 hf2
          go_wp2_with fail
          go_quiet ((go_at_call 76; exact Calls.quiet_of (less_calls ts tb tv B0 _ _ _ (by exact q2) (HS.out.drewN _))))
          rw [c4]
          have O2 := Lib.hid (O1.out.drewN nq)
          have F2 := Lib.hid (F1.out.comp (Fr.drewN [g] W1 nq))
          have y0 : (W1.drewN nq).cell? ⟨g, k, none⟩ = some (.int .i64 (getI cur k)) := x0
          have yj : (W1.drewN nq).cell? ⟨g, j, none⟩ = some (.int .i64 (getI cur j)) := xj
          have fz := fun a => O2.out.frozen a
          clear x0 xj q2 HS O1 F1
          generalize W1.drewN nq = W2 at *
          go_wp2_with fail
          go_region_with (fail)
          all_goals
            go_wp2_with fail
            refine ⟨⟨j, fu', swapL cur k j, by omega, rfl, by rw [swapL_len]; exact hl, ?_⟩, by simp [intOf]; omega⟩
            have hO2 := O2.out.swap (i := k) (j := j) (by omega) j1
            have hF2 := (F2.out.comp (Fr.setCell W2 g k (.int .i64 (getI cur j)) (by simp))).comp (Fr.setCell (W2.setCell ⟨g, k, none⟩ (.int .i64 (getI cur j))) g j (.int .i64 (getI cur k)) (by simp))
            exact ⟨by rw [← HF2.out.2]; exact HK1.out, by rw [swapL_len]; have := HF2.out.1; omega, hO2.drewN 1, hF2.comp (Fr.drewN _ _ 1)⟩
        · have hr := downP_rest (r := rankOf ts) (xs := cur) (f := fu) (k := k) (by rw [HJ.out]; exact fun h => c4 ((ltB_iff _ _ _).2 h))
          have HR := Lib.hid hr
          have c4' : ltB ts (getI cur j) (getI cur k) = false := by simpa using c4
          clear hr c4
          go_wp2_with fail
          go_quiet ((go_at_call 76; exact Calls.quiet_of (less_calls ts tb tv B0 _ _ _ (by exact q2) (HS.out.drewN _))))
          rw [c4']
          go_wp2_with fail
          go_end0
          have h1 := HK1.out
          rw [HR.out] at h1
          rw [← h1]
          exact ⟨rfl, O1.out.drewN nq, F1.out.comp (Fr.drewN [g] W1 nq)⟩
theorem down_calls (ts : List Int) (f : Value) (B0 B g cap : Nat) (xs : List Int) (i0 : Nat) (w : World) (hf : LessOk w B0 f ts) (hg : B0 ≤ g) (hO : OwnI w B g cap xs) (hn : xs.length ≤ 1000000000000) (hi : i0 ≤ 1000000000000) :
    Calls Try.prog 75 #[.slice (some ⟨g, 0, none⟩) xs.length cap, .int .i64 i0, f] w fun e w' => e = .returned (.tuple #[]) ∧ OwnI w' B g cap (downP (rankOf ts) xs.length xs i0) ∧ Fr [g] w w' :=
  down_callsG ts f B0 B g cap xs i0 w (hf.toG hg) hO hn hi
end Go.Proofs.Ytinajjceojfflaa
