/- impl.IntervalRun; spec.Proper, spec.SameSpans, spec.SameFound. -/
import Derived.Test.YtomclflknjkhfaaItvD
namespace Go.Proofs.Ytomclflknjkhfaa
open Go.RowKit ItP

theorem intervalRun_calls (lv : Value) (l : List MarkD) (w : World) (hl : SlC 4 markCell w w.heap.size lv l) (hln : l.length ≤ 7000000000) (hp : PropL l) :
    Calls Try.prog 28 #[lv] w fun e w' => ∃ v', e = .returned v' ∧ Founds w' w.heap.size v' (runI .nil l).2 ∧ Below w.heap.size w w' := by
  obtain ⟨A, c, rfl⟩ := hl.form
  have HC := Lib.hid (fun w1 (f : Fr [] w w1) (t1 : TreeW w1 w.heap.size .nil) => intervalDo_calls w.heap.size w.heap.size _ l w1 (hl.below (f.below (by simp) (Nat.le_refl _))) f.size (Nat.le_refl _) t1 hln hp)
  clear hl hp
  go_enter Try.func28, Try.ntmps28
  go_wp2_with fail
  refine (new_calls w).mono ?_
  rintro e w1 ⟨rfl, t1, f1⟩
  go_wp2_with fail
  refine (HC.out w1 f1 t1).mono ?_
  rintro e w2 ⟨v', rfl, h1, h2⟩
  obtain ⟨cs, ho, ht⟩ := h1
  obtain ⟨A2, c2, rfl⟩ := own_form ho
  have HE := Lib.hid (And.intro ho (And.intro ht ((f1.below (by simp) (Nat.le_refl w.heap.size)).trans h2)))
  clear ho ht h2 f1 t1
  go_wp2_with fail
  go_ret
  exact ⟨_, rfl, ⟨cs, HE.out.1, HE.out.2.1⟩, HE.out.2.2⟩
/-- what Proper asks of a step. -/
def PropA (a : MarkD) : Prop := a.act = 0 ∨ a.act = 1 ∨ a.act = 4 → a.lo < a.hi
set_option maxRecDepth 100000 in
set_option maxHeartbeats 3200000 in
theorem proper_calls (B : Nat) (lv : Value) (l : List MarkD) (w : World) (hl : SlC 4 markCell w B lv l) (hln : l.length ≤ 7000000000) :
    Calls Try.prog 25 #[lv] w fun e w' => ∃ q : Bool, e = .returned (.bool q) ∧ (q = true → PropL l) ∧ ∃ n, w' = w.drewN n := by
  obtain ⟨A, c, rfl⟩ := hl.form
  have HL := Lib.hid hl
  clear hl
  go_enter Try.func25, Try.ntmps25
  go_wp2
  go_loopw [3] (fun i wr => ∃ k : Nat, k ≤ l.length ∧ i = .int .i64 (k : Nat) ∧ Hid (∀ a ∈ l.take k, PropA a) ∧ Hid (∃ n, wr = w.drewN n)) (fun i _ => l.length - (intOf i).toNat)
  case atStart => exact ⟨0, Nat.zero_le _, rfl, (show ∀ a ∈ l.take 0, PropA a by simp), (show ∃ n, w = w.drewN n from ⟨0, rfl⟩)⟩
  case round =>
    obtain ⟨k, hk, rfl, HA, HK⟩ := hrel
    by_cases hlt : k < l.length
    · obtain ⟨b, off, a, rfl, g1, g3, g4, g5, z⟩ := HL.out.at_ hlt
      have hr := HK.out
      obtain ⟨n, hn⟩ := hr
      obtain ⟨act, lo, hi, val⟩ := a
      have q0 : wr.cell? ⟨b, off + k * 4, none⟩ = some (.int .i64 act) := by rw [hn]; exact z 0 _ rfl
      have q1 : wr.cell? ⟨b, off + k * 4 + 1, none⟩ = some (.int .i64 lo) := by rw [hn]; exact z 1 _ rfl
      have q2 : wr.cell? ⟨b, off + k * 4 + 2, none⟩ = some (.int .i64 hi) := by rw [hn]; exact z 2 _ rfl
      have p3 : (0 : Int) ≤ (k : Int) := by omega
      have p4 : (k : Int) < (l.length : Int) := by omega
      have HG := Lib.hid g5
      have HN := Lib.hid (fun m => (show (∃ n, wr.drewN m = w.drewN n) from ⟨n + m, by rw [hn, World.drewN_drewN]⟩))
      have HT := Lib.hid (fun (h : PropA ⟨act, lo, hi, val⟩) => (show ∀ a ∈ l.take (k + 1), PropA a from fun a ha => by
        obtain ⟨_, e⟩ := List.getElem?_eq_some_iff.1 g5
        rw [List.take_succ_eq_append_getElem hlt, e, List.mem_append, List.mem_singleton] at ha
        rcases ha with ha | rfl
        · exact HA.out a ha
        · exact h))
      clear hn z g5
      have dd : act = 0 ∨ act = 1 ∨ act = 4 ∨ ((act == 0) = false ∧ (act == 1) = false ∧ (act == 4) = false) := by
        simp only [beq_eq_false_iff_ne]; omega
      by_cases c2 : hi ≤ lo
      · rcases dd with rfl | rfl | rfl | ⟨e0, e1, e4⟩
        · go_wp2
          go_quiet (fail)
          go_wp2
          go_ret
          exact ⟨false, rfl, by simp, HN.out _⟩
        · go_wp2
          go_quiet (fail)
          go_wp2
          go_ret
          exact ⟨false, rfl, by simp, HN.out _⟩
        · go_wp2
          go_quiet (fail)
          go_wp2
          go_ret
          exact ⟨false, rfl, by simp, HN.out _⟩
        · have hp : PropA ⟨act, lo, hi, val⟩ := fun h => by simp only [beq_eq_false_iff_ne] at e0 e1 e4; simp only at h; omega
          have HPP := Lib.hid hp
          clear hp
          go_wp2
          go_quiet (fail)
          go_wp2
          exact ⟨⟨k + 1, by omega, by go_num, HT.out HPP.out, HN.out _⟩, by simp [intOf]; omega⟩
      · have hp : PropA ⟨act, lo, hi, val⟩ := fun _ => by simp only; omega
        have HPP := Lib.hid hp
        clear hp
        rcases dd with rfl | rfl | rfl | ⟨e0, e1, e4⟩
        · go_wp2
          go_quiet (fail)
          go_wp2
          exact ⟨⟨k + 1, by omega, by go_num, HT.out HPP.out, HN.out _⟩, by simp [intOf]; omega⟩
        · go_wp2
          go_quiet (fail)
          go_wp2
          exact ⟨⟨k + 1, by omega, by go_num, HT.out HPP.out, HN.out _⟩, by simp [intOf]; omega⟩
        · go_wp2
          go_quiet (fail)
          go_wp2
          exact ⟨⟨k + 1, by omega, by go_num, HT.out HPP.out, HN.out _⟩, by simp [intOf]; omega⟩
        · go_wp2
          go_quiet (fail)
          go_wp2
          exact ⟨⟨k + 1, by omega, by go_num, HT.out HPP.out, HN.out _⟩, by simp [intOf]; omega⟩
    · have : k = l.length := by omega
      subst this
      have HE := Lib.hid (show PropL l from fun a ha => HA.out a (by rw [List.take_length]; exact ha))
      go_wp2
      go_ret
      exact ⟨true, rfl, fun _ => HE.out, HK.out⟩
set_option maxRecDepth 100000 in
set_option maxHeartbeats 1600000 in
theorem sameSpans_calls (B1 B2 : Nat) (v1 v2 : Value) (xs : List Sp) (w : World) (h1 : SlC 3 spC w B1 v1 xs) (h2 : SlC 3 spC w B2 v2 xs) (hm : xs.length ≤ 1000000000000) :
    Calls Try.prog 27 #[v1, v2] w fun e w' => e = .returned (.bool true) ∧ ∃ n, w' = w.drewN n := by
  obtain ⟨A1, c1, rfl⟩ := h1.form
  obtain ⟨A2, c2, rfl⟩ := h2.form
  have H1 := Lib.hid h1
  have H2 := Lib.hid h2
  clear h1 h2
  have t0 : ((xs.length : Int) != xs.length) = false := bne_self_eq_false _
  go_enter Try.func27, Try.ntmps27
  go_wp2
  clear t0
  go_loopw [5] (fun i wr => ∃ k : Nat, k ≤ xs.length ∧ i = .int .i64 (k : Nat) ∧ Hid (∃ n, wr = w.drewN n)) (fun i _ => xs.length - (intOf i).toNat)
  case atStart => exact ⟨0, Nat.zero_le _, rfl, ⟨0, rfl⟩⟩
  case round =>
    obtain ⟨k, hk, rfl, HK⟩ := hrel
    by_cases hlt : k < xs.length
    · have hr := HK.out
      obtain ⟨n, hn⟩ := hr
      obtain ⟨b1, o1, s, rfl, _, _, _, g1, z1⟩ := H1.out.at_ hlt
      obtain ⟨b2, o2, s', rfl, _, _, _, g2, z2⟩ := H2.out.at_ hlt
      rw [g1] at g2
      cases g2
      have q10 : wr.cell? ⟨b1, o1 + k * 3, none⟩ = some (.int .i64 s.lo) := by rw [hn]; exact z1 0 _ rfl
      have q11 : wr.cell? ⟨b1, o1 + k * 3 + 1, none⟩ = some (.int .i64 s.hi) := by rw [hn]; exact z1 1 _ rfl
      have q12 : wr.cell? ⟨b1, o1 + k * 3 + 2, none⟩ = some (.int .i64 s.v) := by rw [hn]; exact z1 2 _ rfl
      have q20 : wr.cell? ⟨b2, o2 + k * 3, none⟩ = some (.int .i64 s.lo) := by rw [hn]; exact z2 0 _ rfl
      have q21 : wr.cell? ⟨b2, o2 + k * 3 + 1, none⟩ = some (.int .i64 s.hi) := by rw [hn]; exact z2 1 _ rfl
      have q22 : wr.cell? ⟨b2, o2 + k * 3 + 2, none⟩ = some (.int .i64 s.v) := by rw [hn]; exact z2 2 _ rfl
      clear hn g1 z1 z2
      have p3 : (0 : Int) ≤ (k : Int) := by omega
      have p4 : (k : Int) < (xs.length : Int) := by omega
      go_wp2
      go_quiet (fail)
      go_wp2
      exact ⟨⟨k + 1, by omega, by go_num, by obtain ⟨n, hn⟩ := HK.out; rw [hn]; exact ⟨_, World.drewN_drewN _ _ _⟩⟩, by simp [intOf]; omega⟩
    · go_wp2
      go_ret
      exact ⟨rfl, HK.out⟩
end Go.Proofs.Ytomclflknjkhfaa
