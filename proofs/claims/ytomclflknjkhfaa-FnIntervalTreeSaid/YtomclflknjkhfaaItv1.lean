/- interval trees in memory: turns. -/
import Derived.Test.YtomclflknjkhfaaItv0
namespace Go.Proofs.Ytomclflknjkhfaa
open Go.RowKit ItP

/-- what a call that gives back a tree leaves: it lies there, and goes through the old tree's blocks alone. -/
structure Turned (w w' : World) (t t' : IT) : Prop where
  lies : t'.In w'
  frame : Fr t.ids w w'
def Hok (t : IT) : Prop := 0 ≤ t.ht ∧ t.ht ≤ 100000000000
theorem dis2 {b c : Nat} {s s2 : Sp} {h m h2 m2 : Int} {l l2 r2 : IT} (hn : (IT.node b s h m l (.node c s2 h2 m2 l2 r2)).ids.Nodup) :
    (b ∉ l.ids ∧ b ≠ c ∧ b ∉ l2.ids ∧ b ∉ r2.ids) ∧ (c ∉ l.ids ∧ c ∉ l2.ids ∧ c ∉ r2.ids) := by
  simp only [IT.ids] at hn; grind
theorem dis1 {b c : Nat} {s s2 : Sp} {h m h2 m2 : Int} {l2 r2 r : IT} (hn : (IT.node b s h m (.node c s2 h2 m2 l2 r2) r).ids.Nodup) :
    (b ∉ r.ids ∧ b ≠ c ∧ b ∉ l2.ids ∧ b ∉ r2.ids) ∧ (c ∉ r.ids ∧ c ∉ l2.ids ∧ c ∉ r2.ids) := by
  simp only [IT.ids] at hn; grind
/-- recalculateHeight and updateMax, one behind the other, as one step: what holds behind both. -/
theorem both_calls (b : Nat) (s : Sp) (h m : Int) (l r : IT) (w : World) (hb : Blk w b (cellsI s h m l r) 178) (hl : l.In w) (hr : r.In w) (nl : b ∉ l.ids) (nr : b ∉ r.ids) (h0 : -1000000000000 ≤ max l.ht r.ht) (h1 : max l.ht r.ht ≤ 1000000000000) :
    Calls Try.prog 127 #[.pointer (some ⟨b, 0, none⟩)] w fun e w' => e = .returned (.tuple #[]) ∧ Fr [b] w w' ∧ Blk w' b (cellsI s (htOf l r) m l r) 178 ∧
      Calls Try.prog 128 #[.pointer (some ⟨b, 0, none⟩)] w' fun e w2 => e = .returned (.tuple #[]) ∧ Fr [b] w w2 ∧ Blk w2 b (cellsI s (htOf l r) (mxOf s.hi l r) l r) 178 := by
  refine (recalc_calls b s h m l r w hb hl hr h0 h1).mono ?_
  rintro e w1 ⟨rfl, n, rfl⟩
  have F : Fr [b] w ((w.setCell ⟨b, 3, none⟩ (.int .i64 (htOf l r))).drewN n) := (Fr.setCell _ _ _ _ (by simp)).comp (Fr.drewN _ _ n)
  have B := (set_h hb (htOf l r)).drewN n
  refine ⟨rfl, F, B, ?_⟩
  refine (upd_calls b s (htOf l r) m l r _ B (IT.In.drewN n (IT.In.set hl 3 _ nl)) (IT.In.drewN n (IT.In.set hr 3 _ nr)) nl nr).mono ?_
  rintro e w2 ⟨rfl, B2, F2⟩
  exact ⟨rfl, F.comp F2, B2⟩
set_option maxHeartbeats 1000000 in
theorem rotL_calls (b c : Nat) (s s2 : Sp) (h m h2 m2 : Int) (l l2 r2 : IT) (w : World) (hi : (IT.node b s h m l (.node c s2 h2 m2 l2 r2)).In w) (hn : (IT.node b s h m l (.node c s2 h2 m2 l2 r2)).ids.Nodup) (b0 : Hok l) (b1 : Hok l2) (b2 : Hok r2) :
    Calls Try.prog 130 #[.pointer (some ⟨b, 0, none⟩)] w fun e w' => e = .returned (.pointer (some ⟨c, 0, none⟩)) ∧ Turned w w' (.node b s h m l (.node c s2 h2 m2 l2 r2)) (rotL (.node b s h m l (.node c s2 h2 m2 l2 r2))) := by
  obtain ⟨hb, hl, hc, hl2, hr2⟩ := hi
  obtain ⟨⟨p0, p1, p2, p3, p4, p5, p6⟩, pf⟩ := node_cells hb
  obtain ⟨⟨q0, q1, q2, q3, q4, q5, q6⟩, qf⟩ := node_cells hc
  obtain ⟨⟨n1, n2, n3, n4⟩, m1, m2', m3⟩ := dis2 hn
  simp only [IT.ptr] at p5
  have ncb : c ≠ b := fun e => n2 e.symm
  have B2 := far_N (c := c) (i := 4) (v := .pointer (some ⟨b, 0, none⟩)) (set_r hb l2 _ rfl) n2
  have C2 := set_l (far_N (c := b) (i := 5) (v := .pointer l2.ptr) hc ncb) (mkN b s l l2) (some ⟨b, 0, none⟩) rfl
  have L2 := IT.In.set (IT.In.set hl 5 (.pointer l2.ptr) n1) 4 (.pointer (some ⟨b, 0, none⟩)) m1
  have LL2 := IT.In.set (IT.In.set hl2 5 (.pointer l2.ptr) n3) 4 (.pointer (some ⟨b, 0, none⟩)) m2'
  have RR2 := IT.In.set (IT.In.set hr2 5 (.pointer l2.ptr) n4) 4 (.pointer (some ⟨b, 0, none⟩)) m3
  have F2 : Fr (IT.node b s h m l (.node c s2 h2 m2 l2 r2)).ids w ((w.setCell ⟨b, 5, none⟩ (.pointer l2.ptr)).setCell ⟨c, 4, none⟩ (.pointer (some ⟨b, 0, none⟩))) :=
    (Fr.setCell w b 5 _ (by simp [IT.ids])).comp (Fr.setCell _ c 4 _ (by simp [IT.ids]))
  clear hb hc hl hl2 hr2 hn
  go_enter Try.func130, Try.ntmps130
  go_wp2_with fail
  generalize ((w.setCell ⟨b, 5, none⟩ (.pointer l2.ptr)).setCell ⟨c, 4, none⟩ (.pointer (some ⟨b, 0, none⟩))) = w2 at *
  clear p0 p1 p2 p3 p4 p5 p6 pf q0 q1 q2 q3 q4 q5 q6 qf
  refine (both_calls b s h m l l2 w2 B2 L2 LL2 n1 n3 (by unfold Hok at *; omega) (by unfold Hok at *; omega)).mono ?_
  rintro e w3 ⟨rfl, _, _, K⟩
  have HK := Lib.hid K
  clear K
  go_wp2_with fail
  refine HK.out.mono ?_
  rintro e w4 ⟨rfl, F3, B3⟩
  have C3 : Blk _ c (cellsI s2 h2 m2 (mkN b s l l2) r2) 178 := C2.fr F3 (by simpa using ncb)
  have nin : ∀ {t : IT}, b ∉ t.ids → ∀ x ∈ t.ids, x ∉ [b] := fun hb x hx e => hb (by rw [← List.mem_singleton.1 e]; exact hx)
  have L3 := IT.In.fr F3 L2 (nin n1)
  have LL3 := IT.In.fr F3 LL2 (nin n3)
  have RR3 := IT.In.fr F3 RR2 (nin n4)
  have F4 : Fr (IT.node b s h m l (.node c s2 h2 m2 l2 r2)).ids w w4 := F2.comp (F3.mono (fun x hx => .inl (by rw [List.mem_singleton.1 hx]; simp [IT.ids])))
  clear B2 C2 L2 LL2 RR2 F2 HK F3
  go_wp2_with fail
  have T3 : (mkN b s l l2).In w4 := ⟨B3, L3, LL3⟩
  have nc : c ∉ (mkN b s l l2).ids := by simp only [mkN, IT.ids, List.mem_cons, List.mem_append]; grind
  refine (both_calls c s2 h2 m2 (mkN b s l l2) r2 w4 C3 T3 RR3 nc m3 (by simp only [Hok, mkN, IT.ht, htOf] at *; omega) (by simp only [Hok, mkN, IT.ht, htOf] at *; omega)).mono ?_
  rintro e w5 ⟨rfl, _, _, K⟩
  have HK := Lib.hid K
  clear K
  go_wp2_with fail
  refine HK.out.mono ?_
  rintro e w6 ⟨rfl, F5, B5⟩
  have ninc : ∀ {t : IT}, c ∉ t.ids → ∀ x ∈ t.ids, x ∉ [c] := fun hb x hx e => hb (by rw [← List.mem_singleton.1 e]; exact hx)
  go_wp2
  go_ret
  exact ⟨rfl, ⟨B5, IT.In.fr F5 T3 (ninc nc), IT.In.fr F5 RR3 (ninc m3)⟩, F4.comp (F5.mono (fun x hx => .inl (by rw [List.mem_singleton.1 hx]; simp [IT.ids])))⟩
set_option maxHeartbeats 1000000 in
theorem rotR_calls (b c : Nat) (s s2 : Sp) (h m h2 m2 : Int) (l2 r2 r : IT) (w : World) (hi : (IT.node b s h m (.node c s2 h2 m2 l2 r2) r).In w) (hn : (IT.node b s h m (.node c s2 h2 m2 l2 r2) r).ids.Nodup) (b0 : Hok r) (b1 : Hok l2) (b2 : Hok r2) :
    Calls Try.prog 129 #[.pointer (some ⟨b, 0, none⟩)] w fun e w' => e = .returned (.pointer (some ⟨c, 0, none⟩)) ∧ Turned w w' (.node b s h m (.node c s2 h2 m2 l2 r2) r) (rotR (.node b s h m (.node c s2 h2 m2 l2 r2) r)) := by
  obtain ⟨hb, ⟨hc, hl2, hr2⟩, hr⟩ := hi
  obtain ⟨⟨p0, p1, p2, p3, p4, p5, p6⟩, pf⟩ := node_cells hb
  obtain ⟨⟨q0, q1, q2, q3, q4, q5, q6⟩, qf⟩ := node_cells hc
  obtain ⟨⟨n1, n2, n3, n4⟩, m1, m2', m3⟩ := dis1 hn
  simp only [IT.ptr] at p4
  have ncb : c ≠ b := fun e => n2 e.symm
  have B2 := far_N (c := c) (i := 5) (v := .pointer (some ⟨b, 0, none⟩)) (set_l hb r2 _ rfl) n2
  have C2 := set_r (far_N (c := b) (i := 4) (v := .pointer r2.ptr) hc ncb) (mkN b s r2 r) (some ⟨b, 0, none⟩) rfl
  have R2 := IT.In.set (IT.In.set hr 4 (.pointer r2.ptr) n1) 5 (.pointer (some ⟨b, 0, none⟩)) m1
  have LL2 := IT.In.set (IT.In.set hl2 4 (.pointer r2.ptr) n3) 5 (.pointer (some ⟨b, 0, none⟩)) m2'
  have RR2 := IT.In.set (IT.In.set hr2 4 (.pointer r2.ptr) n4) 5 (.pointer (some ⟨b, 0, none⟩)) m3
  have F2 : Fr (IT.node b s h m (.node c s2 h2 m2 l2 r2) r).ids w ((w.setCell ⟨b, 4, none⟩ (.pointer r2.ptr)).setCell ⟨c, 5, none⟩ (.pointer (some ⟨b, 0, none⟩))) :=
    (Fr.setCell w b 4 _ (by simp [IT.ids])).comp (Fr.setCell _ c 5 _ (by simp [IT.ids]))
  clear hb hc hr hl2 hr2 hn
  go_enter Try.func129, Try.ntmps129
  go_wp2_with fail
  generalize ((w.setCell ⟨b, 4, none⟩ (.pointer r2.ptr)).setCell ⟨c, 5, none⟩ (.pointer (some ⟨b, 0, none⟩))) = w2 at *
  clear p0 p1 p2 p3 p4 p5 p6 pf q0 q1 q2 q3 q4 q5 q6 qf
  refine (both_calls b s h m r2 r w2 B2 RR2 R2 n4 n1 (by unfold Hok at *; omega) (by unfold Hok at *; omega)).mono ?_
  rintro e w3 ⟨rfl, _, _, K⟩
  have HK := Lib.hid K
  clear K
  go_wp2_with fail
  refine HK.out.mono ?_
  rintro e w4 ⟨rfl, F3, B3⟩
  have C3 : Blk _ c (cellsI s2 h2 m2 l2 (mkN b s r2 r)) 178 := C2.fr F3 (by simpa using ncb)
  have nin : ∀ {t : IT}, b ∉ t.ids → ∀ x ∈ t.ids, x ∉ [b] := fun hb x hx e => hb (by rw [← List.mem_singleton.1 e]; exact hx)
  have R3 := IT.In.fr F3 R2 (nin n1)
  have LL3 := IT.In.fr F3 LL2 (nin n3)
  have RR3 := IT.In.fr F3 RR2 (nin n4)
  have F4 : Fr (IT.node b s h m (.node c s2 h2 m2 l2 r2) r).ids w w4 := F2.comp (F3.mono (fun x hx => .inl (by rw [List.mem_singleton.1 hx]; simp [IT.ids])))
  clear B2 C2 R2 LL2 RR2 F2 HK F3
  go_wp2_with fail
  have T3 : (mkN b s r2 r).In w4 := ⟨B3, RR3, R3⟩
  have nc : c ∉ (mkN b s r2 r).ids := by simp only [mkN, IT.ids, List.mem_cons, List.mem_append]; grind
  refine (both_calls c s2 h2 m2 l2 (mkN b s r2 r) w4 C3 LL3 T3 m2' nc (by simp only [Hok, mkN, IT.ht, htOf] at *; omega) (by simp only [Hok, mkN, IT.ht, htOf] at *; omega)).mono ?_
  rintro e w5 ⟨rfl, _, _, K⟩
  have HK := Lib.hid K
  clear K
  go_wp2_with fail
  refine HK.out.mono ?_
  rintro e w6 ⟨rfl, F5, B5⟩
  have ninc : ∀ {t : IT}, c ∉ t.ids → ∀ x ∈ t.ids, x ∉ [c] := fun hb x hx e => hb (by rw [← List.mem_singleton.1 e]; exact hx)
  go_wp2
  go_ret
  exact ⟨rfl, ⟨B5, IT.In.fr F5 LL3 (ninc m2'), IT.In.fr F5 T3 (ninc nc)⟩, F4.comp (F5.mono (fun x hx => .inl (by rw [List.mem_singleton.1 hx]; simp [IT.ids])))⟩
end Go.Proofs.Ytomclflknjkhfaa
