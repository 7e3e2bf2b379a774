/- B-trees: split. -/
import Derived.Test.YtjbelfbfhcmgeaaBtM3
import Derived.Deep.RegionWith
namespace Go.Proofs.Ytjbelfbfhcmgeaa.Kp
open Go.RowKit Bt

/-- in the midst of a parting. -/
structure SpM (w : World) (b : Nat) (rows : List Ent) (j : Nat) (wx : World) : Prop where
  old : PN wx b 32 (fun i => rows[i]?)
  new : PN wx w.heap.size 32 (fun i => if i < j then rows[32 + i]? else none)
  fr : Fr [b] w wx
theorem SpM.start {w : World} {b : Nat} {rows : List Ent} (hn : ND w b rows) :
    SpM w b rows 0 ((w.setCell ⟨b, 0, none⟩ (.int .i64 32)).alloc (Obj.cells ((Try.zeroCells87).setIfInBounds 0 (.int .i64 32)) 87)) := by
  have hlt := hn.lt
  have f1 := Fr.setCell (S := [b]) w b 0 (.int .i64 32) (by simp)
  have e : (w.setCell ⟨b, 0, none⟩ (.int .i64 32)).heap.size = w.heap.size := by simp [World.setCell]
  have hnew := PN.new (w.setCell ⟨b, 0, none⟩ (.int .i64 32)) 32
  rw [e] at hnew
  exact ⟨(hn.toP.setM 32).fr (Fr.alloc [] _ _) (by simp), hnew.weak (fun i e h => by simp at h), f1.comp (Fr.alloc [b] _ _)⟩
theorem SpM.next {w : World} {b : Nat} {rows : List Ent} {j : Nat} {wx : World} (hb : b < w.heap.size) (h : SpM w b rows j wx) (hj : j < 32) {e : Ent} (he : rows[32 + j]? = some e) (n : Nat) :
    SpM w b rows (j + 1) (((((wx.setCell ⟨w.heap.size, 1 + j * 4, none⟩ (.int .i64 e.key)).setCell ⟨w.heap.size, 1 + j * 4 + 1, none⟩ (.int .i64 e.val)).setCell ⟨w.heap.size, 1 + j * 4 + 2, none⟩ (.bool e.valid)).setCell ⟨w.heap.size, 1 + j * 4 + 3, none⟩ (.pointer e.next)).drewN n) := by
  have f1 := (fr_setE wx w.heap.size j (.int .i64 e.key) (.int .i64 e.val) (.bool e.valid) (.pointer e.next)).comp (Fr.drewN _ _ n)
  refine ⟨h.old.fr f1 (by simp; omega), ((h.new.setE j (by omega) e).drewN n).weak (fun i e' hi => ?_), ⟨f1.os.trans h.fr.os, f1.tape.trans h.fr.tape, f1.output.trans h.fr.output, Nat.le_trans h.fr.size f1.size, fun k hk hn => ?_⟩⟩
  · by_cases c : i = j
    · subst c; rw [if_pos rfl]; rw [if_pos (by omega)] at hi; rw [he] at hi; exact hi
    · rw [if_neg c]
      by_cases c2 : i < j + 1
      · rw [if_pos c2] at hi; rw [if_pos (by omega)]; exact hi
      · rw [if_neg c2] at hi; cases hi
  · rw [f1.block k (Nat.lt_of_lt_of_le hk h.fr.size) (by simp; omega), h.fr.block k hk hn]
theorem SpM.done {w : World} {b : Nat} {rows : List Ent} {wx : World} (h : SpM w b rows 32 wx) (hl : rows.length = 64) : ND wx b (rows.take 32) ∧ ND wx w.heap.size (rows.drop 32) := by
  refine ⟨h.old.toN _ (by simp [hl]) (fun i e hi => ?_) (by simp [hl]), h.new.toN _ (by simp [hl]) (fun i e hi => ?_) (by simp [hl])⟩
  · have hi' := (List.getElem?_eq_some_iff.1 hi).1
    rw [List.getElem?_take_of_lt (by simp at hi'; omega)] at hi
    exact hi
  · have hi' := (List.getElem?_eq_some_iff.1 hi).1
    rw [List.getElem?_drop] at hi
    simp [hl] at hi'
    rw [if_pos hi']; exact hi
set_option maxRecDepth 100000 in
set_option maxHeartbeats 1600000 in
theorem split_calls (tv : Value) (b : Nat) (rows : List Ent) (w : World) (hn : ND w b rows) (hl : rows.length = 64) :
    Calls Try.prog 70 #[tv, .pointer (some ⟨b, 0, none⟩)] w fun e w' => e = .returned (.pointer (some ⟨w.heap.size, 0, none⟩)) ∧ ND w' b (rows.take 32) ∧ ND w' w.heap.size (rows.drop 32) ∧ Fr [b] w w' := by
  have cm := hn.m
  have fb := hn.frozen
  have hlt := hn.lt
  have HS := Lib.hid (SpM.start hn)
  have HL := Lib.hid hl
  clear hn hl
  go_enter Try.func70, Try.ntmps70
  go_wp2_with fail
  go_loopw [6] (fun j wx => ∃ k : Nat, k ≤ 32 ∧ j = .int .i64 (k : Nat) ∧ Hid (SpM w b rows k wx)) (fun j _ => 32 - (intOf j).toNat)
  case atStart => exact ⟨0, by omega, rfl, HS⟩
  case round =>
    obtain ⟨k, hk, rfl, HK⟩ := hrel
    by_cases hlt2 : k < 32
    · obtain ⟨e, he⟩ : ∃ e, rows[32 + k]? = some e := ⟨_, List.getElem?_eq_getElem (by have := HL.out; omega)⟩
      obtain ⟨c0, c1, c2, c3⟩ := HK.out.old.row (i := 32 + k) he
      obtain ⟨u0, u1, u2, u3, d0, d1, d2, d3⟩ := HK.out.new.room (i := k) (by omega)
      have fn := HK.out.new.frozen
      have HE := Lib.hid he
      have p1 : (0 : Int) ≤ (k : Int) := by omega
      have p2 : (k : Int) < (64 : Int) := by omega
      have p3 : (0 : Int) ≤ 32 + (k : Int) := by omega
      have p4 : 32 + (k : Int) < (64 : Int) := by omega
      have p5 : (32 + (k : Int)).toNat = 32 + k := by omega
      have p6 : IntKind.i64.wrap (32 + (k : Int)) = 32 + (k : Int) := IntWalk.i64_in _ (by omega)
      clear he fb cm
      go_wp2_with fail
      go_region_with (fail)
      all_goals
        clear p3 p4 p5 p6
        go_wp2_with fail
        exact ⟨⟨k + 1, by omega, by go_num, Lib.hid (HK.out.next hlt hlt2 HE.out 1)⟩, by simp [intOf]; omega⟩
    · have : k = 32 := by omega
      subst this
      go_wp2_with fail
      go_ret
      obtain ⟨h1, h2⟩ := HK.out.done HL.out
      exact ⟨rfl, h1, h2, HK.out.fr⟩
end Go.Proofs.Ytjbelfbfhcmgeaa.Kp
