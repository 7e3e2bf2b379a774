/- B-trees: insert, leaves. -/
import Derived.Test.YtjbelfbfhcmgeaaBtI0
import Derived.Deep.CutBlock
namespace Go.Proofs.Ytjbelfbfhcmgeaa.Kp
open Go.RowKit Bt

/-- entries move up by one: those behind place i have moved. -/
structure ShM (w : World) (b : Nat) (rows : List Ent) (i : Nat) (wx : World) : Prop where
  pn : PN wx b (rows.length : Nat) (fun k => if k < i then rows[k]? else if k = i then none else rows[k - 1]?)
  fr : Fr [b] w wx
theorem ShM.start {w : World} {b : Nat} {rows : List Ent} (h : ND w b rows) : ShM w b rows rows.length w :=
  ⟨h.toP.weak (fun i e he => by
    by_cases c : i < rows.length
    · rw [if_pos c] at he; exact he
    · rw [if_neg c] at he
      split at he
      · cases he
      · rw [List.getElem?_eq_none (by omega)] at he; cases he), Fr.refl _ _⟩
theorem ShM.next {w : World} {b : Nat} {rows : List Ent} {i : Nat} {wx : World} (h : ShM w b rows (i + 1) wx) {e : Ent} (he : rows[i]? = some e) (hi : i + 1 < 64) (n : Nat) :
    ShM w b rows i (((((wx.setCell ⟨b, 1 + (i + 1) * 4, none⟩ (.int .i64 e.key)).setCell ⟨b, 1 + (i + 1) * 4 + 1, none⟩ (.int .i64 e.val)).setCell ⟨b, 1 + (i + 1) * 4 + 2, none⟩ (.bool e.valid)).setCell ⟨b, 1 + (i + 1) * 4 + 3, none⟩ (.pointer e.next)).drewN n) := by
  refine ⟨((h.pn.setE (i + 1) hi e).drewN n).weak (fun k e' hk => ?_), h.fr.comp ((fr_setE wx b (i + 1) _ _ _ _).comp (Fr.drewN _ _ n))⟩
  by_cases c : k = i + 1
  · subst c
    rw [if_neg (by omega), if_neg (by omega)] at hk
    rw [if_pos rfl, ← hk]; simp [he]
  · rw [if_neg c]
    by_cases c1 : k < i
    · rw [if_pos c1] at hk; rw [if_pos (by omega)]; exact hk
    · rw [if_neg c1] at hk
      by_cases c2 : k = i
      · rw [if_pos c2] at hk; cases hk
      · rw [if_neg c2] at hk; rw [if_neg (by omega), if_neg (by omega)]; exact hk
theorem insAt_len {α : Type} {j : Nat} {x : α} {l : List α} (h : j ≤ l.length) : (insAt j x l).length = l.length + 1 := by
  unfold insAt; simp; omega
theorem insAt_get {α : Type} {j : Nat} {x : α} {l : List α} (h : j ≤ l.length) (k : Nat) : (insAt j x l)[k]? = if k < j then l[k]? else if k = j then some x else l[k - 1]? := by
  unfold insAt
  have hl : (l.take j).length = j := by rw [List.length_take]; omega
  by_cases c : k < j
  · rw [if_pos c, List.getElem?_append_left (by omega), List.getElem?_take_of_lt c]
  · rw [if_neg c, List.getElem?_append_right (by omega), hl]
    by_cases c2 : k = j
    · rw [if_pos c2, c2, Nat.sub_self]; rfl
    · rw [if_neg c2, show k - j = (k - j - 1) + 1 by omega, List.getElem?_cons_succ, List.getElem?_drop]
      congr 1; omega
/-- the new entry is written. -/
theorem ShM.put {w : World} {b : Nat} {rows : List Ent} {i : Nat} {wx : World} (h : ShM w b rows i wx) (e : Ent) (hi : i < 64) :
    PN (((((wx.setCell ⟨b, 1 + i * 4, none⟩ (.int .i64 e.key)).setCell ⟨b, 1 + i * 4 + 1, none⟩ (.int .i64 e.val)).setCell ⟨b, 1 + i * 4 + 2, none⟩ (.bool e.valid)).setCell ⟨b, 1 + i * 4 + 3, none⟩ (.pointer e.next)).drew) b (rows.length : Nat) (fun k => if k < i then rows[k]? else if k = i then some e else rows[k - 1]?) ∧
    Fr [b] w (((((wx.setCell ⟨b, 1 + i * 4, none⟩ (.int .i64 e.key)).setCell ⟨b, 1 + i * 4 + 1, none⟩ (.int .i64 e.val)).setCell ⟨b, 1 + i * 4 + 2, none⟩ (.bool e.valid)).setCell ⟨b, 1 + i * 4 + 3, none⟩ (.pointer e.next)).drew) := by
  refine ⟨((h.pn.setE i hi e).drewN 1).weak (fun k e' hk => ?_), h.fr.comp ((fr_setE wx b i _ _ _ _).comp (Fr.drewN _ _ 1))⟩
  by_cases c : k = i
  · subst c
    rw [if_neg (by omega), if_pos rfl] at hk
    rw [if_pos rfl]; exact hk
  · rw [if_neg c]
    by_cases c1 : k < i
    · rw [if_pos c1] at hk ⊢; exact hk
    · rw [if_neg c1, if_neg c] at hk
      rw [if_neg c1, if_neg c]; exact hk
theorem ins_done {w : World} {b : Nat} {rows : List Ent} {i : Nat} {e : Ent} (h : PN w b (rows.length : Nat) (fun k => if k < i then rows[k]? else if k = i then some e else rows[k - 1]?)) (hi : i ≤ rows.length) (hl : rows.length < 64) :
    ND (w.setCell ⟨b, 0, none⟩ (.int .i64 ((rows.length : Int) + 1))) b (insAt i e rows) :=
  (h.setM ((rows.length : Int) + 1)).toN _ (by rw [insAt_len hi]; rfl) (fun k e' hk => by rw [insAt_get hi] at hk; exact hk) (by rw [insAt_len hi]; omega)
/-- what an insertion leaves of a node, by the number of its entries. -/
def TailP (w : World) (b : Nat) (ins : List Ent) (e : Ending) (w' : World) : Prop :=
  (ins.length < 64 ∧ e = .returned (.pointer none) ∧ ND w' b ins ∧ Fr [b] w w') ∨
  (ins.length = 64 ∧ ∃ nb, e = .returned (.pointer (some ⟨nb, 0, none⟩)) ∧ w.heap.size ≤ nb ∧ ND w' b (ins.take 32) ∧ ND w' nb (ins.drop 32) ∧ Fr [b] w w')
set_option maxRecDepth 100000 in
set_option maxHeartbeats 3200000 in
theorem insNew_calls (xs : List Int) (tb b : Nat) (f : Value) (rows : List Ent) (key val : Int) (vld : Bool) (j : Nat) (w : World) (hs : SR w tb f xs) (hn : ND w b rows) (hl : rows.length < 64) (hj : j ≤ rows.length)
    (h1 : ∀ (i : Nat) e, i < j → rows[i]? = some e → cmpOf xs key e.key = 1) (h2 : j = rows.length ∨ ∃ e, rows[j]? = some e ∧ cmpOf xs key e.key < 0) :
    Calls Try.prog 56 #[.pointer (some ⟨tb, 0, none⟩), .pointer (some ⟨b, 0, none⟩), .int .i64 key, .int .i64 val, .int .i64 0, .bool vld] w (TailP w b (insAt j ⟨key, val, vld, none⟩ rows)) := by
  have hw1 : Below w.heap.size w (w.alloc (.cells #[.int .i64 key, .int .i64 val, .bool vld, .pointer none] 84)) := (Below.refl _ w).alloc (Nat.le_refl _) _
  have HS := Lib.hid (hs.below hw1)
  have hn1 := hn.below hw1 hn.lt
  have hlt := hn.lt
  have HN := Lib.hid hn1
  have HEB0 := Lib.hid (Blk.new w #[.int .i64 key, .int .i64 val, .bool vld, .pointer none] 84)
  have HB := Lib.hid hw1
  have H1 := Lib.hid h1
  have H2 := Lib.hid h2
  clear hs hn hn1 hw1 h1 h2
  go_enter Try.func56, Try.ntmps56
  go_upto_block 0 with (fail)
  generalize (w.alloc (.cells #[.int .i64 key, .int .i64 val, .bool vld, .pointer none] 84)) = W at *
  go_cut [14] (fun s wx => s = .int .i64 (j : Nat) ∧ ∃ n, wx = W.drewN n)
  case first =>
    go_wp2_with fail
    go_loopw [14] (fun s wx => ∃ k : Nat, k ≤ j ∧ s = .int .i64 (k : Nat) ∧ Hid (∃ n, wx = W.drewN n)) (fun s _ => rows.length - (intOf s).toNat)
    case atStart => exact ⟨0, by omega, rfl, Lib.hid ⟨0, rfl⟩⟩
    case round =>
      obtain ⟨k, hk, rfl, HK⟩ := hrel
      obtain ⟨m, hm⟩ := HK.out
      have hS : SR wr tb f xs := by rw [hm]; exact HS.out.drewN m
      have cm : wr.cell? ⟨b, 0, none⟩ = some (.int .i64 (rows.length : Nat)) := by rw [hm]; exact HN.out.m
      have cl : wr.cell? ⟨tb, 3, none⟩ = some f := hS.less
      have HSR := Lib.hid hS.ok
      clear hS
      have p1 : (0 : Int) ≤ (k : Int) := by omega
      have p2 : (k : Int) < (64 : Int) := by omega
      by_cases hlt2 : k < rows.length
      · obtain ⟨e, he⟩ : ∃ e, rows[k]? = some e := ⟨_, List.getElem?_eq_getElem hlt2⟩
        have hcp := HN.out.row he
        have c0 : wr.cell? ⟨b, 1 + k * 4, none⟩ = some (.int .i64 e.key) := by rw [hm]; exact hcp.1
        have HE := Lib.hid he
        have HM := Lib.hid hm
        clear hm he hcp
        by_cases hkj : k < j
        · have hc := H1.out k e hkj HE.out
          have q1 : (cmpOf xs key e.key == 0) = false := by rw [hc]; rfl
          have q2 : decide (cmpOf xs key e.key < 0) = false := by rw [hc]; rfl
          clear hc
          go_wp2_with fail
          go_quiet ((go_at_call 69; exact Calls.quiet_of (compare_calls xs _ _ _ _ _ (lessOk_drewN HSR.out _))))
          go_wp2_with fail
          obtain ⟨wq, hwq⟩ : ∃ wq, wq = wr.drewN nq := ⟨_, rfl⟩
          rw [← hwq]
          have cm2 : wq.cell? ⟨b, 0, none⟩ = some (.int .i64 (rows.length : Nat)) := by rw [hwq]; exact cm
          have c02 : wq.cell? ⟨b, 1 + k * 4, none⟩ = some (.int .i64 e.key) := by rw [hwq]; exact c0
          have cl2 : wq.cell? ⟨tb, 3, none⟩ = some f := by rw [hwq]; exact cl
          have HSR2 := Lib.hid (show LessOk wq _ f xs by rw [hwq]; exact lessOk_drewN HSR.out nq)
          have HWQ := Lib.hid hwq
          clear hwq cm c0 cl
          go_quiet ((go_at_call 69; exact Calls.quiet_of (compare_calls xs _ _ _ _ _ (lessOk_drewN HSR2.out _))))
          go_wp2_with fail
          refine ⟨⟨k + 1, by omega, by go_num, Lib.hid ?_⟩, by simp [intOf]; omega⟩
          rw [HWQ.out, HM.out, World.drewN_drewN, World.drewN_drewN]; exact ⟨_, rfl⟩
        · obtain rfl : k = j := by omega
          have hc : cmpOf xs key e.key < 0 := by
            rcases H2.out with h | ⟨e', he', hc⟩
            · omega
            · rw [HE.out] at he'; cases he'; exact hc
          have q1 : (cmpOf xs key e.key == 0) = false := by rw [beq_eq_false_iff_ne]; omega
          have q2 : decide (cmpOf xs key e.key < 0) = true := decide_eq_true hc
          clear hc
          go_wp2_with fail
          go_quiet ((go_at_call 69; exact Calls.quiet_of (compare_calls xs _ _ _ _ _ (lessOk_drewN HSR.out _))))
          go_wp2_with fail
          obtain ⟨wq, hwq⟩ : ∃ wq, wq = wr.drewN nq := ⟨_, rfl⟩
          rw [← hwq]
          have cm2 : wq.cell? ⟨b, 0, none⟩ = some (.int .i64 (rows.length : Nat)) := by rw [hwq]; exact cm
          have c02 : wq.cell? ⟨b, 1 + k * 4, none⟩ = some (.int .i64 e.key) := by rw [hwq]; exact c0
          have cl2 : wq.cell? ⟨tb, 3, none⟩ = some f := by rw [hwq]; exact cl
          have HSR2 := Lib.hid (show LessOk wq _ f xs by rw [hwq]; exact lessOk_drewN HSR.out nq)
          have HWQ := Lib.hid hwq
          clear hwq cm c0 cl
          go_quiet ((go_at_call 69; exact Calls.quiet_of (compare_calls xs _ _ _ _ _ (lessOk_drewN HSR2.out _))))
          go_wp2_with fail
          go_meet
          refine ⟨rfl, ?_⟩
          rw [HWQ.out, HM.out, World.drewN_drewN, World.drewN_drewN]; exact ⟨_, rfl⟩
      · obtain rfl : k = rows.length := by omega
        obtain rfl : j = rows.length := by omega
        have HM := Lib.hid hm
        clear hm
        go_wp2_with fail
        go_meet
        exact ⟨rfl, _, HM.out⟩
  case rest =>
    obtain ⟨rfl, n, hwc⟩ := hcut
    have HN2 : Hid (ND wc b rows) := Lib.hid (by rw [hwc]; exact HN.out.below (Below.drewN (B := W.heap.size) W n) HN.out.lt)
    have cm := HN2.out.m
    have HSH := Lib.hid (ShM.start HN2.out)
    have HEB1 := HEB0
    replace HEB0 := Lib.hid (show Blk wc w.heap.size #[.int .i64 key, .int .i64 val, .bool vld, .pointer none] 84 by rw [hwc]; exact HEB0.out.drewN n)
    have HF0 := Lib.hid (show Fr [b] w wc by rw [hwc]; exact (Fr.of_below HB.out).comp (Fr.drewN _ W n))
    clear hwc
    go_wp2_with fail
    go_loopw [16] (fun s wx => ∃ i : Nat, j ≤ i ∧ i ≤ rows.length ∧ s = .int .i64 (i : Nat) ∧ Hid (ShM wc b rows i wx)) (fun s _ => (intOf s).toNat)
    case atStart => exact ⟨rows.length, hj, Nat.le_refl _, rfl, HSH⟩
    case round =>
      obtain ⟨i, hi1, hi2, hs16, HK⟩ := hrel
      by_cases hgt : j < i
      · obtain ⟨i, rfl⟩ : ∃ i', i = i' + 1 := ⟨i - 1, by omega⟩
        replace hs16 : u16 = Value.int .i64 ((i : Int) + 1) := hs16
        subst hs16
        obtain ⟨e, he⟩ : ∃ e, rows[i]? = some e := ⟨_, List.getElem?_eq_getElem (by omega)⟩
        obtain ⟨c0, c1, c2, c3⟩ := HK.out.pn.row (i := i) (e := e) (by rw [if_pos (by omega)]; exact he)
        obtain ⟨u0, u1, u2, u3, d0, d1, d2, d3⟩ := HK.out.pn.room (i := i + 1) (by omega)
        have fn := HK.out.pn.frozen
        have HE := Lib.hid he
        have p0 : (0 : Int) ≤ (i : Int) := by omega
        have p1 : (0 : Int) ≤ (i : Int) + 1 := by omega
        have p2 : (i : Int) + 1 < (64 : Int) := by omega
        have p3 : (i : Int) < (64 : Int) := by omega
        have n1 : i < 64 := by omega
        have n2 : i + 1 < 64 := by omega
        have p5 : ((i : Int) + 1).toNat = i + 1 := by omega
        have p6 : IntKind.i64.wrap ((i : Int) + 1 - 1) = (i : Int) := by rw [Int.add_sub_cancel]; exact IntWalk.i64_in _ (by omega)
        have p7 : IntKind.i64.wrap (i : Int) = (i : Int) := IntWalk.i64_in _ (by omega)
        clear he
        go_wp2_with fail
        go_region_with (fail)
        all_goals
          clear p5 p6 p7 c0 c1 c2 c3 d0 d1 d2 d3
          go_wp2_with fail
          exact ⟨⟨i, by omega, by omega, by go_num, Lib.hid (HK.out.next HE.out (by omega) 1)⟩, by simp [intOf]⟩
      · have : i = j := by omega
        subst this
        subst hs16
        obtain ⟨u0, u1, u2, u3, d0, d1, d2, d3⟩ := HK.out.pn.room (i := i) (by omega)
        have fn := HK.out.pn.frozen
        have HEB := Lib.hid (HEB0.out.fr HK.out.fr (by simp; omega))
        have x0 := HEB.out.cell 0
        have x1 := HEB.out.cell 1
        have x2 := HEB.out.cell 2
        have x3 := HEB.out.cell 3
        simp only [List.getElem?_toArray, List.getElem?_cons_succ, List.getElem?_cons_zero] at x0 x1 x2 x3
        have p1 : (0 : Int) ≤ (i : Int) := by omega
        have p2 : (i : Int) < (64 : Int) := by omega
        have n1 : i < 64 := by omega
        go_wp2_with fail
        go_region_with (fail)
        all_goals
          have HD := Lib.hid (HK.out.put ⟨key, val, vld, none⟩ (by omega))
          clear x0 x1 x2 x3 d0 d1 d2 d3 fn HK HEB
          go_upto_region 28 with (fail)
          generalize (((((wr.setCell ⟨b, 1 + i * 4, none⟩ (.int .i64 key)).setCell ⟨b, 1 + i * 4 + 1, none⟩ (.int .i64 val)).setCell ⟨b, 1 + i * 4 + 2, none⟩ (.bool vld)).setCell ⟨b, 1 + i * 4 + 3, none⟩ (.pointer none)).drew) = W5 at *
          have cm := HD.out.1.m
          have fn := HD.out.1.frozen
          have HN6 := Lib.hid (ins_done HD.out.1 hi2 hl)
          have HF6 := Lib.hid ((HF0.out.comp HD.out.2).comp (Fr.setCell (S := [b]) W5 b 0 (.int .i64 ((rows.length : Int) + 1)) (by simp)))
          have hlb := HF6.out.size
          by_cases h64 : rows.length + 1 < 64
          · have q1 : (rows.length : Int) + 1 < 64 := by omega
            go_wp2_with fail
            go_ret
            exact (.inl ⟨by rw [insAt_len hi2]; exact h64, rfl, HN6.out, HF6.out⟩)
          · have q1 : ((rows.length : Int) + 1 < 64) = False := eq_false (by omega)
            have q2 : decide ((rows.length : Int) + 1 < 64) = false := decide_eq_false (by omega)
            have q3 : ¬ ((rows.length : Int) + 1 < 64) := by omega
            go_wp2_with fail
            (with_reducible refine (split_calls _ b _ _ HN6.out (by rw [insAt_len hi2]; omega)).mono ?_)
            rintro e' w7 ⟨rfl, n1, n2, f7⟩
            go_wp2_with fail
            go_ret
            have sz : (W5.setCell ⟨b, 0, none⟩ (.int .i64 ((rows.length : Int) + 1))).heap.size = W5.heap.size := by simp [World.setCell]
            rw [sz] at n2
            exact (.inr ⟨by rw [insAt_len hi2]; omega, _, rfl, by rw [← sz]; exact hlb, n1, n2, HF6.out.comp f7⟩)
end Go.Proofs.Ytjbelfbfhcmgeaa.Kp
