/- AVL trees as data: impl.branches. -/
import Derived.Test.YtpnmgfiifaljjaaShape
namespace Go.Proofs.Ytpnmgfiifaljjaa
open Go.RowKit

theorem ZzShape_calls (f : Value) (tb : Nat) (t : AT) (w : World) (ht : TreeAt w tb t f) (hi : t.In w) (hv : t.Vs) (hn : t.ids.length ≤ 10000000000) :
    Calls Try.prog 63 #[.pointer (some ⟨tb, 0, none⟩)] w fun e w' => ∃ v', e = .returned v' ∧ w'.ownsRow w.heap.size 94 5 v' t.shape.length (t.shape.flatMap brCells) ∧ Below w.heap.size w w' := by
  have c0 : w.cell? ⟨tb, 0, none⟩ = some (.pointer t.ptr) := ht.cell 0
  have HZ := Lib.hid (zzShape_calls w.heap.size t [] (.slice none 0 0) w hi hv hi.lt (Nat.le_refl _) (by simp; omega) (World.ownsRow_nil _ _ _ _))
  clear ht hi hv
  go_enter Try.func63, Try.ntmps63
  go_wp2_with fail
  refine HZ.out.mono ?_
  rintro e w1 ⟨v', rfl, h1, h2⟩
  go_wp2
  go_ret
  exact ⟨_, rfl, by simpa using h1, h2⟩
theorem news_blk2 (w : World) (o : Obj) (cs : List Value) (T : TypeId) : ∀ j u, cs[j]? = some u → ((w.alloc o).alloc (.cells cs.toArray T)).cell? ((⟨w.heap.size + 1, 0, none⟩ : Addr).add j) = some u := by
  have h := news_blk (Blk.new (w.alloc o) cs.toArray T)
  rw [show (w.alloc o).heap.size = w.heap.size + 1 by simp] at h
  exact h
set_option maxRecDepth 100000 in
set_option maxHeartbeats 1600000 in
theorem branches_calls (f : Value) (tb : Nat) (t : AT) (w : World) (ht : TreeAt w tb t f) (hi : t.In w) (hv : t.Vs) (hn : t.ids.length ≤ 10000000000) :
    Calls Try.prog 38 #[.pointer (some ⟨tb, 0, none⟩)] w fun e w' => ∃ v', e = .returned v' ∧ w'.ownsRow w.heap.size 47 5 v' t.shape.length (t.shape.flatMap brCells) ∧ Below w.heap.size w w' := by
  obtain ⟨i0, hi0, hz0, hz1, hz2⟩ := info_parts Try.infoBr
  have HZ := Lib.hid (ZzShape_calls f tb t w ht hi hv hn)
  have hsl := t.shape_len
  have hcap : t.shape.length ≤ 10000000000 := by omega
  clear hi hv ht hsl
  generalize t.shape = sh at *
  go_enter Try.func38, Try.ntmps38
  go_wp2_with fail
  refine HZ.out.mono ?_
  rintro e w1 ⟨v1, rfl, h1, b1⟩
  have HS := Lib.hid (own_SlC brCells_len h1)
  obtain ⟨A, c, rfl⟩ := own_form h1
  clear h1 HZ
  go_wp2_with fail
  go_loopw [3, 9] (fun v i wr => ∃ k, k ≤ sh.length ∧ i = .int .i64 (k : Nat) ∧ Hid (wr.ownsRow w1.heap.size 47 5 v k ((sh.take k).flatMap brCells) ∧ Below w1.heap.size w1 wr)) (fun _ i _ => sh.length - (intOf i).toNat)
  case atStart => exact ⟨0, Nat.zero_le _, rfl, ⟨World.ownsRow_nil _ _ _ _, Below.refl _ _⟩⟩
  case round =>
    obtain ⟨k, hk, rfl, HK⟩ := hrel
    by_cases hlt : k < sh.length
    · obtain ⟨b, off, a, rfl, g1, g3, g4, g5, z⟩ := HS.out.at_ hlt
      obtain ⟨key, val, ht, bl, br⟩ := a
      have q0 := (HK.out.2.cell (p := ⟨b, off + k * 5, none⟩) g3).trans (z 0 _ rfl)
      have q1 := (HK.out.2.cell (p := ⟨b, off + k * 5 + 1, none⟩) g3).trans (z 1 _ rfl)
      have q2 := (HK.out.2.cell (p := ⟨b, off + k * 5 + 2, none⟩) g3).trans (z 2 _ rfl)
      have q3 := (HK.out.2.cell (p := ⟨b, off + k * 5 + 3, none⟩) g3).trans (z 3 _ rfl)
      have q4 := (HK.out.2.cell (p := ⟨b, off + k * 5 + 4, none⟩) g3).trans (z 4 _ rfl)
      have HA := Lib.hid g5
      have hle := HK.out.2.size
      clear g5 z
      go_wp2_with (at_builtin; go_loud (refine wpList_append_own _ rfl (.tmp 13) (.tmp 25) 22 rfl w1.heap.size 47 i0 _ 5 32 Try.underlying22 hi0 hz0 hz1 hz2 rfl (by omega) _ k _ rfl ((HK.out.1.alloc _).alloc _) ⟨wr.heap.size + 1, 0, none⟩ 1 1 (brCells ⟨key, val, ht, bl, br⟩) rfl rfl (news_blk2 wr _ _ _) (by simp [brCells, Value.oneCell']) (by unfold maxLen; omega) (by omega) (by simp; omega) ?_; intro v' w3 hown' hgrow _))
      refine ⟨⟨k + 1, by omega, by go_num, ⟨?_, ?_⟩⟩, by simp [intOf]; omega⟩
      · have hg := (List.getElem?_eq_some_iff.1 HA.out).2
        rw [List.take_succ_eq_append_getElem hlt, hg, flat_snoc]
        exact hown'
      · exact ((HK.out.2.alloc hle _).alloc (by simp; omega) _).grown hgrow (by simp; omega) (fun g hg => (HK.out.1.lt g hg).1)
    · have : k = sh.length := by omega
      subst this
      go_wp2_with fail
      go_ret
      have h := HK.out
      rw [List.take_length] at h
      exact ⟨_, rfl, own_weaken h.1 b1.size, b1.trans (h.2.mono b1.size)⟩
end Go.Proofs.Ytpnmgfiifaljjaa
