/- B-trees: insert, a key that is there; what an insertion leaves of a tree. -/
import Derived.Test.YtjbelfbfhcmgeaaBtI1
namespace Go.Proofs.Ytjbelfbfhcmgeaa.Kp
open Go.RowKit Bt

theorem ND.setV {w : World} {b : Nat} {rows : List Ent} (h : ND w b rows) {i : Nat} {e : Ent} (he : rows[i]? = some e) (val : Int) (vld : Bool) :
    ND ((w.setCell ⟨b, 1 + i * 4 + 1, none⟩ (.int .i64 val)).setCell ⟨b, 1 + i * 4 + 2, none⟩ (.bool vld)) b (rows.set i ⟨e.key, val, vld, e.next⟩) := by
  obtain ⟨cs, h1, h2⟩ := h.is
  have hs := h2.size
  have hl := h2.len
  have hi := (List.getElem?_eq_some_iff.1 he).1
  refine ⟨_, (h1.set _ _).set _ _, by simp [hs], set_one (set_one h2.one _ rfl) _ rfl, ?_, fun k e' hk => ?_, by simp; exact hl⟩
  · rw [Array.getElem?_setIfInBounds_ne (by omega), Array.getElem?_setIfInBounds_ne (by omega), List.length_set]
    exact h2.m
  · by_cases c : k = i
    · subst c
      rw [List.getElem?_set_self hi] at hk
      cases hk
      obtain ⟨a0, a1, a2, a3⟩ := h2.row k e he
      refine ⟨?_, ?_, ?_, ?_⟩
      · rw [Array.getElem?_setIfInBounds_ne (by omega), Array.getElem?_setIfInBounds_ne (by omega)]; exact a0
      · rw [Array.getElem?_setIfInBounds_ne (by omega), Array.getElem?_setIfInBounds_self_of_lt (by omega)]
      · rw [Array.getElem?_setIfInBounds_self_of_lt (by simp; omega)]
      · rw [Array.getElem?_setIfInBounds_ne (by omega), Array.getElem?_setIfInBounds_ne (by omega)]; exact a3
    · rw [List.getElem?_set_ne (fun e => c e.symm)] at hk
      obtain ⟨a0, a1, a2, a3⟩ := h2.row k e' hk
      refine ⟨?_, ?_, ?_, ?_⟩
      all_goals
        rw [Array.getElem?_setIfInBounds_ne (by omega), Array.getElem?_setIfInBounds_ne (by omega)]
        assumption
set_option maxRecDepth 100000 in
set_option maxHeartbeats 3200000 in
theorem insSet_calls (xs : List Int) (tb b : Nat) (f : Value) (rows : List Ent) (key val : Int) (vld : Bool) (j : Nat) (ej : Ent) (w : World) (hs : SR w tb f xs) (hn : ND w b rows) (hl : rows.length < 64) (hj : rows[j]? = some ej)
    (h1 : ∀ (i : Nat) e, i < j → rows[i]? = some e → cmpOf xs key e.key = 1) (h2 : cmpOf xs key ej.key = 0) :
    Calls Try.prog 56 #[.pointer (some ⟨tb, 0, none⟩), .pointer (some ⟨b, 0, none⟩), .int .i64 key, .int .i64 val, .int .i64 0, .bool vld] w fun e w' => e = .returned (.pointer none) ∧ ND w' b (rows.set j ⟨ej.key, val, vld, ej.next⟩) ∧ Fr [b] w w' := by
  have hw1 : Below w.heap.size w (w.alloc (.cells #[.int .i64 key, .int .i64 val, .bool vld, .pointer none] 84)) := (Below.refl _ w).alloc (Nat.le_refl _) _
  have HS := Lib.hid (hs.below hw1)
  have hn1 := hn.below hw1 hn.lt
  have hlt := hn.lt
  have HN := Lib.hid hn1
  have HB := Lib.hid hw1
  have H1 := Lib.hid h1
  have H2 := Lib.hid h2
  have HJ := Lib.hid hj
  have hjl := (List.getElem?_eq_some_iff.1 hj).1
  clear hs hn hn1 hw1 h1 h2 hj
  go_enter Try.func56, Try.ntmps56
  go_upto_block 0 with (fail)
  generalize (w.alloc (.cells #[.int .i64 key, .int .i64 val, .bool vld, .pointer none] 84)) = W at *
  go_wp2_with fail
  go_loopw [14] (fun s wx => ∃ k : Nat, k ≤ j ∧ s = .int .i64 (k : Nat) ∧ Hid (∃ n, wx = W.drewN n)) (fun s _ => rows.length - (intOf s).toNat)
  case atStart => exact ⟨0, by omega, rfl, Lib.hid ⟨0, rfl⟩⟩
  case round =>
    obtain ⟨k, hk, rfl, HK⟩ := hrel
    obtain ⟨m, hm⟩ := HK.out
    have hS : SR wr tb f xs := by rw [hm]; exact HS.out.drewN m
    have cm : wr.cell? ⟨b, 0, none⟩ = some (.int .i64 (rows.length : Nat)) := by rw [hm]; exact HN.out.m
    have cl : wr.cell? ⟨tb, 3, none⟩ = some f := hS.less
    have HSR := Lib.hid hS.ok
    clear hS
    have p1 : (0 : Int) ≤ (k : Int) := by omega
    have p2 : (k : Int) < (64 : Int) := by omega
    have p3 : k < 64 := by omega
    have hlt2 : k < rows.length := by omega
    obtain ⟨e, he⟩ : ∃ e, rows[k]? = some e := ⟨_, List.getElem?_eq_getElem hlt2⟩
    have hcp := HN.out.row he
    have c0 : wr.cell? ⟨b, 1 + k * 4, none⟩ = some (.int .i64 e.key) := by rw [hm]; exact hcp.1
    have c1 : wr.cell? ⟨b, 1 + k * 4 + 1, none⟩ = some (.int .i64 e.val) := by rw [hm]; exact hcp.2.1
    have c2 : wr.cell? ⟨b, 1 + k * 4 + 2, none⟩ = some (.bool e.valid) := by rw [hm]; exact hcp.2.2.1
    have fn : ∀ i, wr.frozen? ⟨b, i, none⟩ = false := by rw [hm]; exact HN.out.frozen
    have HE := Lib.hid he
    have HM := Lib.hid hm
    clear hm he hcp
    by_cases hkj : k < j
    · have hc := H1.out k e hkj HE.out
      have q1 : (cmpOf xs key e.key == 0) = false := by rw [hc]; rfl
      have q2 : decide (cmpOf xs key e.key < 0) = false := by rw [hc]; rfl
      clear hc
      go_wp2_with fail
      go_quiet ((go_at_call 69; exact Calls.quiet_of (compare_calls xs _ _ _ _ _ (lessOk_drewN HSR.out _))))
      go_wp2_with fail
      obtain ⟨wq, hwq⟩ : ∃ wq, wq = wr.drewN nq := ⟨_, rfl⟩
      rw [← hwq]
      have cm2 : wq.cell? ⟨b, 0, none⟩ = some (.int .i64 (rows.length : Nat)) := by rw [hwq]; exact cm
      have c02 : wq.cell? ⟨b, 1 + k * 4, none⟩ = some (.int .i64 e.key) := by rw [hwq]; exact c0
      have cl2 : wq.cell? ⟨tb, 3, none⟩ = some f := by rw [hwq]; exact cl
      have HSR2 := Lib.hid (show LessOk wq _ f xs by rw [hwq]; exact lessOk_drewN HSR.out nq)
      have HWQ := Lib.hid hwq
      clear hwq cm c0 cl c1 c2 fn
      go_quiet ((go_at_call 69; exact Calls.quiet_of (compare_calls xs _ _ _ _ _ (lessOk_drewN HSR2.out _))))
      go_wp2_with fail
      refine ⟨⟨k + 1, by omega, by go_num, Lib.hid ?_⟩, by simp [intOf]; omega⟩
      rw [HWQ.out, HM.out, World.drewN_drewN, World.drewN_drewN]; exact ⟨_, rfl⟩
    · obtain rfl : k = j := by omega
      have hej : e = ej := by have := HE.out; rw [HJ.out] at this; cases this; rfl
      subst hej
      have q1 : (cmpOf xs key e.key == 0) = true := by rw [H2.out]; rfl
      go_wp2_with fail
      go_quiet ((go_at_call 69; exact Calls.quiet_of (compare_calls xs _ _ _ _ _ (lessOk_drewN HSR.out _))))
      go_wp2_with fail
      go_ret
      have hnd : ND (wr.drewN nq) b rows := by rw [HM.out, World.drewN_drewN]; exact HN.out.below (Below.drewN (B := W.heap.size) W _) HN.out.lt
      have hfr : Fr [b] w (wr.drewN nq) := by rw [HM.out, World.drewN_drewN]; exact (Fr.of_below HB.out).comp (Fr.drewN _ W _)
      exact ⟨rfl, hnd.setV HE.out val vld, hfr.comp ((Fr.setCell _ b _ _ (by simp)).comp (Fr.setCell _ b _ _ (by simp)))⟩
end Go.Proofs.Ytjbelfbfhcmgeaa.Kp
