/- (*impl.ring).do. -/
import Derived.Test.YtinajjceojfflaaLB4
import Derived.Deep.AppendLies
import Derived.Deep.RegionLaw
import Derived.Deep.CutBlock
namespace Go.Proofs.Ytinajjceojfflaa
open Go.RowKit

theorem Try.infoPN : (Try.prog.info? 105).map (fun i => (i.zero, i.size, i.bytes)) = some (some (.pointer none), 1, 8) := by kernel_rfl
theorem ringS_lt {B : Nat} {w : World} {rb lb : Nat} {ids : List (Nat × Int)} {row : List Nat} {nv : Value} {held : List (Nat × Int)} (h : RingI B w rb lb ids row nv held) {b : Nat} (hb : b ∈ ringS rb lb ids nv) : b < w.heap.size := (h.ty b hb).2.1
/-- a new node behind all. -/
theorem pushed_back {B : Nat} {w : World} {rb lb : Nat} {ids : List (Nat × Int)} {row : List Nat} {nv : Value} (key : Int) (h : RingI B w rb lb ids row nv ids) (hB : B ≤ w.heap.size) :
    Calls Try.prog 78 #[.pointer (some ⟨lb, 0, none⟩), .int .i64 key] w fun e w3 => e = .returned (.tuple #[]) ∧ RingI B w3 rb lb (ids ++ [(w.heap.size, key)]) (row ++ [ids.length]) nv ids ∧ Fr (ringS rb lb ids nv) w w3 ∧ w3.cell? ⟨lb, 1, none⟩ = some (.pointer (some ⟨w.heap.size, 0, none⟩)) := by
  refine (pushBack_calls lb key _ w h.dl).mono ?_
  rintro e w3 ⟨rfl, d, f⟩
  have e1 : row.map (pickN ids) ++ [(w.heap.size, key)] = (row ++ [ids.length]).map (pickN (ids ++ [(w.heap.size, key)])) := by
    rw [List.map_append, List.map_cons, List.map_nil, pickN_last, map_pick_snoc h.rowlt]
  have hg : (row.map (pickN ids) ++ [(w.heap.size, key)])[(row.map (pickN ids)).length]? = some (w.heap.size, key) := by rw [List.getElem?_append_right (Nat.le_refl _), Nat.sub_self]; rfl
  have hb := d.nodes _ _ hg
  have hc := d.blk.cell 1
  rw [List.length_append, List.length_singleton] at hc
  have hc2 : w3.cell? ⟨lb, 1, none⟩ = some (.pointer (some ⟨w.heap.size, 0, none⟩)) := by
    rw [hc]
    show some (Value.pointer (idAt _ _)) = _
    unfold idAt
    rw [hg]; rfl
  rw [e1] at d
  obtain ⟨h1, f1⟩ := h.made (row' := row ++ [ids.length]) hB (q := (w.heap.size, key)) (Nat.le_refl _) f (fun i hi => by
    rcases List.mem_append.1 hi with hi | hi
    · have := h.rowlt i hi; omega
    · rw [List.mem_singleton.1 hi]; omega) d ⟨_, _, hb⟩ (fun b hb => List.mem_cons.1 hb) (fun i hi => List.mem_append_left _ hi)
  exact ⟨rfl, h1, f1, hc2⟩
theorem pushed_front {B : Nat} {w : World} {rb lb : Nat} {ids : List (Nat × Int)} {row : List Nat} {nv : Value} (key : Int) (h : RingI B w rb lb ids row nv ids) (hB : B ≤ w.heap.size) :
    Calls Try.prog 87 #[.pointer (some ⟨lb, 0, none⟩), .int .i64 key] w fun e w3 => e = .returned (.tuple #[]) ∧ RingI B w3 rb lb (ids ++ [(w.heap.size, key)]) (ids.length :: row) nv ids ∧ Fr (ringS rb lb ids nv) w w3 ∧ w3.cell? ⟨lb, 0, none⟩ = some (.pointer (some ⟨w.heap.size, 0, none⟩)) := by
  refine (pushFront_calls lb key _ w h.dl).mono ?_
  rintro e w3 ⟨rfl, d, f⟩
  have e1 : (w.heap.size, key) :: row.map (pickN ids) = (ids.length :: row).map (pickN (ids ++ [(w.heap.size, key)])) := by
    rw [List.map_cons, pickN_last, map_pick_snoc h.rowlt]
  have hb := d.nodes 0 _ rfl
  have hc2 : w3.cell? ⟨lb, 0, none⟩ = some (.pointer (some ⟨w.heap.size, 0, none⟩)) := d.blk.cell 0
  rw [e1] at d
  obtain ⟨h1, f1⟩ := h.made (row' := ids.length :: row) hB (q := (w.heap.size, key)) (Nat.le_refl _) f (fun i hi => by
    rcases List.mem_cons.1 hi with rfl | hi
    · omega
    · have := h.rowlt i hi; omega) d ⟨_, _, hb⟩ (fun b hb => List.mem_cons.1 hb) (fun i hi => List.mem_cons_of_mem _ hi)
  exact ⟨rfl, h1, f1, hc2⟩
/-- a new node in no list. -/
theorem made_alone {B : Nat} {w : World} {rb lb : Nat} {ids : List (Nat × Int)} {row : List Nat} {nv : Value} (key : Int) (h : RingI B w rb lb ids row nv ids) (hB : B ≤ w.heap.size) :
    RingI B (w.alloc (Obj.cells (nodeC key none none) 107)) rb lb (ids ++ [(w.heap.size, key)]) row nv ids := by
  have d := (h.alloc (Obj.cells (nodeC key none none) 107)).dl
  rw [← map_pick_snoc (q := (w.heap.size, key)) h.rowlt] at d
  exact (h.made (row' := row) hB (q := (w.heap.size, key)) (Nat.le_refl _) (Fr.alloc [] w _) (fun i hi => by have := h.rowlt i hi; omega) d ⟨_, _, Blk.new _ _ _⟩ (by simp) (fun i hi => hi)).1
/-- behind the append. -/
theorem app_end {B rb lb : Nat} {W w3 wm w4 : World} {ids : List (Nat × Int)} {row : List Nat} {nv v' : Value} {q : Nat × Int} (f2 : Fr (ringS rb lb ids nv) W w3) (hq : W.heap.size ≤ q.1) (h1 : RingI B w3 rb lb (ids ++ [q]) row nv ids) (hm : Fr [] w3 wm)
    (ho : w4.ownsRow B 105 1 v' (ids.length + 1) (ids.map ptrN ++ [ptrN q])) (hg : wm.grownBy w4 nv.ownBlock) :
    RingI B (w4.setCell ⟨rb, 1, none⟩ v') rb lb (ids ++ [q]) row v' (ids ++ [q]) ∧ Fr (ringS rb lb ids nv) W (w4.setCell ⟨rb, 1, none⟩ v') := by
  obtain ⟨h2, f3⟩ := h1.app hm ho hg
  refine ⟨h2, f2.trans f3 (fun b hb => .inl hb) (fun b hb => ?_)⟩
  simp only [ringS, idsOf, List.map_append, List.map_cons, List.map_nil, List.mem_cons, List.mem_append, List.not_mem_nil, or_false] at hb ⊢
  rcases hb with hb | hb | (hb | hb) | hb
  · exact .inl (.inl hb)
  · exact .inl (.inr (.inl hb))
  · exact .inl (.inr (.inr (.inl hb)))
  · exact .inr (by omega)
  · exact .inl (.inr (.inr (.inr hb)))
/-- what the walk must know behind the append. -/
theorem app_cells {B rb lb : Nat} {w3 wm w4 : World} {ids held : List (Nat × Int)} {row : List Nat} {nv : Value} (h1 : RingI B w3 rb lb ids row nv held) (hm : Fr [] w3 wm) (hg : wm.grownBy w4 nv.ownBlock) : w4.cell? ⟨rb, 1, none⟩ = some nv ∧ (∀ i, w4.frozen? ⟨rb, i, none⟩ = false) ∧ rb < w4.heap.size := by
  have f1 : Fr nv.ownBlock.toList w3 w4 := hm.trans (S2 := nv.ownBlock.toList) ⟨hg.os, hg.tape, hg.output, hg.size, fun k hk hn => hg.block k hk (fun e => hn (by rw [← e]; simp))⟩ (fun _ h => by cases h) (fun _ h => .inl h)
  have hb := h1.blk.fr f1 (by simpa using h1.ne.2.2.2.1)
  exact ⟨hb.cell 1, hb.frozen, hb.lt⟩
set_option maxRecDepth 100000 in
set_option maxHeartbeats 3200000 in
theorem do5_calls {B rb lb : Nat} {ids : List (Nat × Int)} {row : List Nat} {nv : Value} (on key val : Int) (w : World) (h : RingI B w rb lb ids row nv ids) (hB : B ≤ w.heap.size) (hl : ids.length ≤ 100000000000) (hr : row.length ≤ 100000000000) :
    Calls Try.prog 47 #[.pointer (some ⟨rb, 0, none⟩), .agg #[.int .i64 on, .int .i64 5, .int .i64 key, .int .i64 val]] w (RingO B w rb lb ids row nv ⟨on, 5, key, val⟩) := by
  obtain ⟨i0, hi0, hz0, hz1, hz2⟩ := info_parts Try.infoPN
  have F := three_new w #[.int .i64 on, .int .i64 5, .int .i64 key, .int .i64 val] #[.int .i64 0, .bool false, .slice none 0 0, .slice none 0 0] #[.int .i64 0, .bool false, .slice none 0 0, .slice none 0 0] 28 31 31
  have HR := Lib.hid (((h.alloc (Obj.cells #[.int .i64 on, .int .i64 5, .int .i64 key, .int .i64 val] 28)).alloc (Obj.cells #[.int .i64 0, .bool false, .slice none 0 0, .slice none 0 0] 31)).alloc (Obj.cells #[.int .i64 0, .bool false, .slice none 0 0, .slice none 0 0] 31))
  have HL := Lib.hid h
  clear h
  go_enter Try.func47, Try.ntmps47
  go_upto_block 0 with (fail)
  generalize ((w.alloc (Obj.cells #[.int .i64 on, .int .i64 5, .int .i64 key, .int .i64 val] 28)).alloc (Obj.cells #[.int .i64 0, .bool false, .slice none 0 0, .slice none 0 0] 31)).alloc (Obj.cells #[.int .i64 0, .bool false, .slice none 0 0, .slice none 0 0] 31) = W at *
  obtain ⟨A0, c0, rfl⟩ := own_form HR.out.nodes
  obtain ⟨r0, r1, l0, l1, rl, ll⟩ := HR.out.cells
  have s1 : W.cell? ⟨w.heap.size, 1, none⟩ = some (.int .i64 5) := F.1.cell 1
  have s2 : W.cell? ⟨w.heap.size, 2, none⟩ = some (.int .i64 key) := F.1.cell 2
  have s3 : W.cell? ⟨w.heap.size, 3, none⟩ = some (.int .i64 val) := F.1.cell 3
  have sl := F.1.lt
  have FF := Lib.hid F
  clear F
  have HC := Lib.hid (eachOn_calls lb (row.map (pickN ids)) 0 (Nat.zero_le _) W HR.out.dl (by rw [List.length_map]; exact hr))
  obtain ⟨pp, hpp⟩ : ∃ pp, pp = idAt (row.map (pickN ids)) 0 := ⟨_, rfl⟩
  rw [← hpp] at HC l0
  obtain ⟨ks, hks⟩ : ∃ ks, ks = ((row.map (pickN ids)).drop 0).map Prod.snd := ⟨_, rfl⟩
  rw [← hks] at HC
  have HK0 := Lib.hid hks
  clear hpp hks
  go_wp2_with fail
  refine HC.out.mono ?_
  rintro e w1 ⟨v, rfl, o1, b1⟩
  obtain ⟨A1, c1, rfl⟩ := own_form o1
  have h5 := HR.out.fr (Fr.of_below (S := []) b1) (by simp)
  have f2 : Fr (ringS rb lb ids (.slice A0 ids.length c0)) W w1 := Fr.of_below b1
  have HK := Lib.hid (own_IntSl o1)
  clear o1 b1 HC
  have m1 : Blk w1 (w.heap.size + 1) _ _ := FF.out.2.1.fr f2 (fun hb => by have := ringS_lt HL.out hb; omega)
  have m2 : Blk w1 (w.heap.size + 1 + 1) _ _ := FF.out.2.2.1.fr f2 (fun hb => by have := ringS_lt HL.out hb; omega)
  have y0 : w1.cell? ⟨w.heap.size + 1 + 1, 0, none⟩ = some (.int .i64 0) := m2.cell 0
  have y1 : w1.cell? ⟨w.heap.size + 1 + 1, 1, none⟩ = some (.bool false) := m2.cell 1
  have y2 : w1.cell? ⟨w.heap.size + 1 + 1, 2, none⟩ = some (.slice none 0 0) := m2.cell 2
  have y3 : w1.cell? ⟨w.heap.size + 1 + 1, 3, none⟩ = some (.slice none 0 0) := m2.cell 3
  have z0 : w1.cell? ⟨w.heap.size + 1, 0, none⟩ = some (.int .i64 0) := m1.cell 0
  have z1 : w1.cell? ⟨w.heap.size + 1, 1, none⟩ = some (.bool false) := m1.cell 1
  have z2 : w1.cell? ⟨w.heap.size + 1, 2, none⟩ = some (.slice none 0 0) := m1.cell 2
  have z3 : w1.cell? ⟨w.heap.size + 1, 3, none⟩ = some (.slice none 0 0) := m1.cell 3
  have fz1 := m1.frozen
  have fz2 := m2.frozen
  have HH := Lib.hid (And.intro h5 (And.intro f2 (And.intro m1 m2)))
  clear h5 f2 m1 m2
  go_wp2_with fail
  obtain ⟨h5, f2, m1, m2⟩ := HH.out
  obtain ⟨m3, f3⟩ := fin_cells (Blk.far (c := w.heap.size + 1 + 1) (i := 2) (v := .slice A1 ks.length c1) m1 (by omega)) (.int .i64 0) (.bool false) (.slice A1 ks.length c1) (.slice none 0 0)
  refine bodyPost_ret (results_cell rfl _ _ _ rfl (seen_load m3)) rfl ?_
  exact ring_end FF.out.2.2.2.1 h5 f2 (by simp [doL]) (by rw [HK0.out, List.drop_zero]; simp [keysL, pick_vals HL.out.rowlt]) HK.out (by omega) (by omega) m1 m2 ((Fr.setCell (S := [w.heap.size + 1, w.heap.size + 1 + 1]) w1 (w.heap.size + 1 + 1) 2 _ (by simp)).trans f3 (by simp) (by simp))
set_option maxRecDepth 100000 in
set_option maxHeartbeats 3200000 in
theorem do6_calls {B rb lb : Nat} {ids : List (Nat × Int)} {row : List Nat} {nv : Value} (on key val : Int) (w : World) (h : RingI B w rb lb ids row nv ids) (hB : B ≤ w.heap.size) (hl : ids.length ≤ 100000000000) (hr : row.length ≤ 100000000000) :
    Calls Try.prog 47 #[.pointer (some ⟨rb, 0, none⟩), .agg #[.int .i64 on, .int .i64 6, .int .i64 key, .int .i64 val]] w (RingO B w rb lb ids row nv ⟨on, 6, key, val⟩) := by
  obtain ⟨i0, hi0, hz0, hz1, hz2⟩ := info_parts Try.infoPN
  have F := three_new w #[.int .i64 on, .int .i64 6, .int .i64 key, .int .i64 val] #[.int .i64 0, .bool false, .slice none 0 0, .slice none 0 0] #[.int .i64 0, .bool false, .slice none 0 0, .slice none 0 0] 28 31 31
  have HR := Lib.hid (((h.alloc (Obj.cells #[.int .i64 on, .int .i64 6, .int .i64 key, .int .i64 val] 28)).alloc (Obj.cells #[.int .i64 0, .bool false, .slice none 0 0, .slice none 0 0] 31)).alloc (Obj.cells #[.int .i64 0, .bool false, .slice none 0 0, .slice none 0 0] 31))
  have HL := Lib.hid h
  clear h
  go_enter Try.func47, Try.ntmps47
  go_upto_block 0 with (fail)
  generalize ((w.alloc (Obj.cells #[.int .i64 on, .int .i64 6, .int .i64 key, .int .i64 val] 28)).alloc (Obj.cells #[.int .i64 0, .bool false, .slice none 0 0, .slice none 0 0] 31)).alloc (Obj.cells #[.int .i64 0, .bool false, .slice none 0 0, .slice none 0 0] 31) = W at *
  obtain ⟨A0, c0, rfl⟩ := own_form HR.out.nodes
  obtain ⟨r0, r1, l0, l1, rl, ll⟩ := HR.out.cells
  have s1 : W.cell? ⟨w.heap.size, 1, none⟩ = some (.int .i64 6) := F.1.cell 1
  have s2 : W.cell? ⟨w.heap.size, 2, none⟩ = some (.int .i64 key) := F.1.cell 2
  have s3 : W.cell? ⟨w.heap.size, 3, none⟩ = some (.int .i64 val) := F.1.cell 3
  have sl := F.1.lt
  have FF := Lib.hid F
  clear F
  have HC := Lib.hid (eachBack_calls lb (row.map (pickN ids)) (row.map (pickN ids)).length (Nat.le_refl _) W HR.out.dl (by rw [List.length_map]; exact hr))
  obtain ⟨pp, hpp⟩ : ∃ pp, pp = prevAt (row.map (pickN ids)) (row.map (pickN ids)).length := ⟨_, rfl⟩
  rw [← hpp] at HC l1
  obtain ⟨ks, hks⟩ : ∃ ks, ks = (((row.map (pickN ids)).take (row.map (pickN ids)).length).map Prod.snd).reverse := ⟨_, rfl⟩
  rw [← hks] at HC
  have HK0 := Lib.hid hks
  clear hpp hks
  go_wp2_with fail
  refine HC.out.mono ?_
  rintro e w1 ⟨v, rfl, o1, b1⟩
  obtain ⟨A1, c1, rfl⟩ := own_form o1
  have h5 := HR.out.fr (Fr.of_below (S := []) b1) (by simp)
  have f2 : Fr (ringS rb lb ids (.slice A0 ids.length c0)) W w1 := Fr.of_below b1
  have HK := Lib.hid (own_IntSl o1)
  clear o1 b1 HC
  have m1 : Blk w1 (w.heap.size + 1) _ _ := FF.out.2.1.fr f2 (fun hb => by have := ringS_lt HL.out hb; omega)
  have m2 : Blk w1 (w.heap.size + 1 + 1) _ _ := FF.out.2.2.1.fr f2 (fun hb => by have := ringS_lt HL.out hb; omega)
  have y0 : w1.cell? ⟨w.heap.size + 1 + 1, 0, none⟩ = some (.int .i64 0) := m2.cell 0
  have y1 : w1.cell? ⟨w.heap.size + 1 + 1, 1, none⟩ = some (.bool false) := m2.cell 1
  have y2 : w1.cell? ⟨w.heap.size + 1 + 1, 2, none⟩ = some (.slice none 0 0) := m2.cell 2
  have y3 : w1.cell? ⟨w.heap.size + 1 + 1, 3, none⟩ = some (.slice none 0 0) := m2.cell 3
  have z0 : w1.cell? ⟨w.heap.size + 1, 0, none⟩ = some (.int .i64 0) := m1.cell 0
  have z1 : w1.cell? ⟨w.heap.size + 1, 1, none⟩ = some (.bool false) := m1.cell 1
  have z2 : w1.cell? ⟨w.heap.size + 1, 2, none⟩ = some (.slice none 0 0) := m1.cell 2
  have z3 : w1.cell? ⟨w.heap.size + 1, 3, none⟩ = some (.slice none 0 0) := m1.cell 3
  have fz1 := m1.frozen
  have fz2 := m2.frozen
  have HH := Lib.hid (And.intro h5 (And.intro f2 (And.intro m1 m2)))
  clear h5 f2 m1 m2
  go_wp2_with fail
  obtain ⟨h5, f2, m1, m2⟩ := HH.out
  obtain ⟨m3, f3⟩ := fin_cells (Blk.far (c := w.heap.size + 1 + 1) (i := 2) (v := .slice A1 ks.length c1) m1 (by omega)) (.int .i64 0) (.bool false) (.slice A1 ks.length c1) (.slice none 0 0)
  refine bodyPost_ret (results_cell rfl _ _ _ rfl (seen_load m3)) rfl ?_
  exact ring_end FF.out.2.2.2.1 h5 f2 (by simp [doL]) (by rw [HK0.out, List.take_length]; simp [keysL, pick_vals HL.out.rowlt]) HK.out (by omega) (by omega) m1 m2 ((Fr.setCell (S := [w.heap.size + 1, w.heap.size + 1 + 1]) w1 (w.heap.size + 1 + 1) 2 _ (by simp)).trans f3 (by simp) (by simp))
set_option maxRecDepth 100000 in
set_option maxHeartbeats 3200000 in
theorem do9_calls {B rb lb : Nat} {ids : List (Nat × Int)} {row : List Nat} {nv : Value} (on key val : Int) (w : World) (h : RingI B w rb lb ids row nv ids) (hB : B ≤ w.heap.size) (hl : ids.length ≤ 100000000000) (hr : row.length ≤ 100000000000) :
    Calls Try.prog 47 #[.pointer (some ⟨rb, 0, none⟩), .agg #[.int .i64 on, .int .i64 9, .int .i64 key, .int .i64 val]] w (RingO B w rb lb ids row nv ⟨on, 9, key, val⟩) := by
  obtain ⟨i0, hi0, hz0, hz1, hz2⟩ := info_parts Try.infoPN
  have F := three_new w #[.int .i64 on, .int .i64 9, .int .i64 key, .int .i64 val] #[.int .i64 0, .bool false, .slice none 0 0, .slice none 0 0] #[.int .i64 0, .bool false, .slice none 0 0, .slice none 0 0] 28 31 31
  have HR := Lib.hid (((h.alloc (Obj.cells #[.int .i64 on, .int .i64 9, .int .i64 key, .int .i64 val] 28)).alloc (Obj.cells #[.int .i64 0, .bool false, .slice none 0 0, .slice none 0 0] 31)).alloc (Obj.cells #[.int .i64 0, .bool false, .slice none 0 0, .slice none 0 0] 31))
  have HL := Lib.hid h
  clear h
  go_enter Try.func47, Try.ntmps47
  go_upto_block 0 with (fail)
  generalize ((w.alloc (Obj.cells #[.int .i64 on, .int .i64 9, .int .i64 key, .int .i64 val] 28)).alloc (Obj.cells #[.int .i64 0, .bool false, .slice none 0 0, .slice none 0 0] 31)).alloc (Obj.cells #[.int .i64 0, .bool false, .slice none 0 0, .slice none 0 0] 31) = W at *
  obtain ⟨A0, c0, rfl⟩ := own_form HR.out.nodes
  obtain ⟨r0, r1, l0, l1, rl, ll⟩ := HR.out.cells
  have s1 : W.cell? ⟨w.heap.size, 1, none⟩ = some (.int .i64 9) := F.1.cell 1
  have s2 : W.cell? ⟨w.heap.size, 2, none⟩ = some (.int .i64 key) := F.1.cell 2
  have s3 : W.cell? ⟨w.heap.size, 3, none⟩ = some (.int .i64 val) := F.1.cell 3
  have sl := F.1.lt
  have FF := Lib.hid F
  clear F
  have hWB : B ≤ W.heap.size := Nat.le_trans hB FF.out.2.2.2.1.size
  have hown := HR.out.nodes
  have H1 := Lib.hid (made_alone key HR.out hWB)
  go_wp2_with fail
  go_region_law (first
    | (refine step_append_lies _ rfl (.tmp 102) (.tmp 107) 79 rfl B 105 i0 _ 1 8 Try.underlying79 hi0 hz0 hz1 hz2 rfl (by omega) (.slice A0 ids.length c0) ids.length (ids.map ptrN) (by rfl) (by with_reducible first | exact ((hown.alloc _).alloc _).drew | exact (hown.alloc _).alloc _) _ 1 1 [ptrN (W.heap.size, key)] (by rfl) (by rfl) (news1 (by simp [ptrN])) (fun _ h => by rw [List.mem_singleton.1 h]; rfl) (by omega) (by unfold maxLen; omega) (by omega) (by simp; omega) _ (by rfl) ?_; intro gg cap w4 hown4 hgrow hat hlt4
       obtain ⟨x1, x2, x3⟩ := app_cells H1.out (by with_reducible first | exact (Fr.alloc [] _ _).comp (Fr.drewN [] _ 1) | exact Fr.alloc [] _ _) hgrow
       have HG := Lib.hid (And.intro hown4 hgrow)
       clear hown4 hgrow hat))
  all_goals
    obtain ⟨h5, f5⟩ := app_end (Fr.alloc _ W _) (Nat.le_refl _) H1.out (by with_reducible first | exact (Fr.alloc [] _ _).comp (Fr.drewN [] _ 1) | exact Fr.alloc [] _ _) HG.out.1 HG.out.2
    clear x1 x2 x3 r0 r1 l0 l1 rl ll s1 s2 s3 sl hown
    generalize (w4.setCell ⟨rb, 1, none⟩ (.slice (some ⟨gg, 0, none⟩) (ids.length + 1) cap)) = w5 at *
    have f2 := f5
    clear f5
    have m1 : Blk w5 (w.heap.size + 1) _ _ := FF.out.2.1.fr f2 (fun hb => by have := ringS_lt HL.out hb; omega)
    have m2 : Blk w5 (w.heap.size + 1 + 1) _ _ := FF.out.2.2.1.fr f2 (fun hb => by have := ringS_lt HL.out hb; omega)
    have y0 : w5.cell? ⟨w.heap.size + 1 + 1, 0, none⟩ = some (.int .i64 0) := m2.cell 0
    have y1 : w5.cell? ⟨w.heap.size + 1 + 1, 1, none⟩ = some (.bool false) := m2.cell 1
    have y2 : w5.cell? ⟨w.heap.size + 1 + 1, 2, none⟩ = some (.slice none 0 0) := m2.cell 2
    have y3 : w5.cell? ⟨w.heap.size + 1 + 1, 3, none⟩ = some (.slice none 0 0) := m2.cell 3
    have z0 : w5.cell? ⟨w.heap.size + 1, 0, none⟩ = some (.int .i64 0) := m1.cell 0
    have z1 : w5.cell? ⟨w.heap.size + 1, 1, none⟩ = some (.bool false) := m1.cell 1
    have z2 : w5.cell? ⟨w.heap.size + 1, 2, none⟩ = some (.slice none 0 0) := m1.cell 2
    have z3 : w5.cell? ⟨w.heap.size + 1, 3, none⟩ = some (.slice none 0 0) := m1.cell 3
    have fz1 := m1.frozen
    have fz2 := m2.frozen
    have HH := Lib.hid (And.intro h5 (And.intro f2 (And.intro m1 m2)))
    clear h5 f2 m1 m2
    go_wp2_with fail
    obtain ⟨h5, f2, m1, m2⟩ := HH.out
    obtain ⟨m3, f3⟩ := fin_cells m1 (.int .i64 0) (.bool false) (.slice none 0 0) (.slice none 0 0)
    refine bodyPost_ret (results_cell rfl _ _ _ rfl (seen_load m3)) rfl ?_
    exact ring_end (ks := []) FF.out.2.2.2.1 h5 f2 (by simp [doL]) (keys_no (by simp) (by simp) _) (IntSl.nil _) (by omega) (by omega) m1 m2 (f3.trans (Fr.refl [] _) (by simp) (by simp))
set_option maxRecDepth 100000 in
set_option maxHeartbeats 3200000 in
theorem do0_calls {B rb lb : Nat} {ids : List (Nat × Int)} {row : List Nat} {nv : Value} (on key val : Int) (w : World) (h : RingI B w rb lb ids row nv ids) (hB : B ≤ w.heap.size) (hl : ids.length ≤ 100000000000) (hr : row.length ≤ 100000000000) :
    Calls Try.prog 47 #[.pointer (some ⟨rb, 0, none⟩), .agg #[.int .i64 on, .int .i64 0, .int .i64 key, .int .i64 val]] w (RingO B w rb lb ids row nv ⟨on, 0, key, val⟩) := by
  obtain ⟨i0, hi0, hz0, hz1, hz2⟩ := info_parts Try.infoPN
  have F := three_new w #[.int .i64 on, .int .i64 0, .int .i64 key, .int .i64 val] #[.int .i64 0, .bool false, .slice none 0 0, .slice none 0 0] #[.int .i64 0, .bool false, .slice none 0 0, .slice none 0 0] 28 31 31
  have HR := Lib.hid (((h.alloc (Obj.cells #[.int .i64 on, .int .i64 0, .int .i64 key, .int .i64 val] 28)).alloc (Obj.cells #[.int .i64 0, .bool false, .slice none 0 0, .slice none 0 0] 31)).alloc (Obj.cells #[.int .i64 0, .bool false, .slice none 0 0, .slice none 0 0] 31))
  have HL := Lib.hid h
  clear h
  go_enter Try.func47, Try.ntmps47
  go_wp2_with fail
  generalize ((w.alloc (Obj.cells #[.int .i64 on, .int .i64 0, .int .i64 key, .int .i64 val] 28)).alloc (Obj.cells #[.int .i64 0, .bool false, .slice none 0 0, .slice none 0 0] 31)).alloc (Obj.cells #[.int .i64 0, .bool false, .slice none 0 0, .slice none 0 0] 31) = W at *
  obtain ⟨A0, c0, rfl⟩ := own_form HR.out.nodes
  obtain ⟨r0, r1, l0, l1, rl, ll⟩ := HR.out.cells
  have s1 : W.cell? ⟨w.heap.size, 1, none⟩ = some (.int .i64 0) := F.1.cell 1
  have s2 : W.cell? ⟨w.heap.size, 2, none⟩ = some (.int .i64 key) := F.1.cell 2
  have s3 : W.cell? ⟨w.heap.size, 3, none⟩ = some (.int .i64 val) := F.1.cell 3
  have sl := F.1.lt
  have FF := Lib.hid F
  clear F
  have hWB : B ≤ W.heap.size := Nat.le_trans hB FF.out.2.2.2.1.size
  have hdr : ∀ wx, (∃ n, wx = W.drewN n) → Calls Try.prog 78 #[.pointer (some ⟨lb, 0, none⟩), .int .i64 key] wx fun e w3 => e = .returned (.tuple #[]) ∧ RingI B w3 rb lb (ids ++ [(W.heap.size, key)]) (row ++ [ids.length]) (.slice A0 ids.length c0) ids ∧ Fr (ringS rb lb ids (.slice A0 ids.length c0)) W w3 ∧ w3.cell? ⟨lb, 1, none⟩ = some (.pointer (some ⟨W.heap.size, 0, none⟩)) := by
    rintro wx ⟨n, rfl⟩
    refine (pushed_back key (HR.out.fr (Fr.drewN [] W n) (by simp)) hWB).mono ?_
    rintro e w3 ⟨rfl, h1, f1, c⟩
    exact ⟨rfl, h1, (Fr.drewN _ _ _).comp f1, c⟩
  have HDR := Lib.hid hdr
  clear hdr
  go_region_with (go_at_call 78; refine (HDR.out _ ⟨1, rfl⟩).mono ?_; rintro e w3 ⟨rfl, h1, f2, lk⟩)
  all_goals
    obtain ⟨q0, q1, k0, k1, ql, pl⟩ := h1.cells
    have w3l : W.heap.size ≤ w3.heap.size := f2.size
    clear  r0 r1 l0 l1 rl ll s1 s2 s3 sl
    have hown := h1.nodes
    have H1 := Lib.hid h1
    have F2 := Lib.hid f2
    have M1 : Blk w3 (w.heap.size + 1) _ _ := FF.out.2.1.fr f2 (fun hb => by have := ringS_lt HL.out hb; omega)
    have M2 : Blk w3 (w.heap.size + 1 + 1) _ _ := FF.out.2.2.1.fr f2 (fun hb => by have := ringS_lt HL.out hb; omega)
    have MM := Lib.hid (And.intro M1 M2)
    clear h1 f2 M1 M2
    go_wp2_with fail
    go_region_law (first
      | (refine step_append_lies _ rfl (.tmp 37) (.tmp 45) 79 rfl B 105 i0 _ 1 8 Try.underlying79 hi0 hz0 hz1 hz2 rfl (by omega) (.slice A0 ids.length c0) ids.length (ids.map ptrN) (by rfl) (by with_reducible first | exact (hown.alloc _).drew | exact hown.alloc _ | exact (hown.drew).alloc _) _ 1 1 [ptrN (W.heap.size, key)] (by rfl) (by rfl) (news1 (by simp [ptrN])) (fun _ h => by rw [List.mem_singleton.1 h]; rfl) (by omega) (by unfold maxLen; omega) (by omega) (by simp; omega) _ (by rfl) ?_; intro gg cap w4 hown4 hgrow hat hlt4
         obtain ⟨x1, x2, x3⟩ := app_cells H1.out (by with_reducible first | exact (Fr.alloc [] w3 _).comp (Fr.drewN [] _ 1) | exact Fr.alloc [] w3 _) hgrow
         have HG := Lib.hid (And.intro hown4 hgrow)
         clear hown4 hgrow hat))
    all_goals
      obtain ⟨h5, f5⟩ := app_end F2.out (Nat.le_refl _) H1.out (by with_reducible first | exact (Fr.alloc [] w3 _).comp (Fr.drewN [] _ 1) | exact Fr.alloc [] w3 _) HG.out.1 HG.out.2
      clear x1 x2 x3 q0 q1 k0 k1 hown lk
      generalize (w4.setCell ⟨rb, 1, none⟩ (.slice (some ⟨gg, 0, none⟩) (ids.length + 1) cap)) = w5 at *
      have f2 := f5
      clear f5
      have m1 : Blk w5 (w.heap.size + 1) _ _ := FF.out.2.1.fr f2 (fun hb => by have := ringS_lt HL.out hb; omega)
      have m2 : Blk w5 (w.heap.size + 1 + 1) _ _ := FF.out.2.2.1.fr f2 (fun hb => by have := ringS_lt HL.out hb; omega)
      have y0 : w5.cell? ⟨w.heap.size + 1 + 1, 0, none⟩ = some (.int .i64 0) := m2.cell 0
      have y1 : w5.cell? ⟨w.heap.size + 1 + 1, 1, none⟩ = some (.bool false) := m2.cell 1
      have y2 : w5.cell? ⟨w.heap.size + 1 + 1, 2, none⟩ = some (.slice none 0 0) := m2.cell 2
      have y3 : w5.cell? ⟨w.heap.size + 1 + 1, 3, none⟩ = some (.slice none 0 0) := m2.cell 3
      have z0 : w5.cell? ⟨w.heap.size + 1, 0, none⟩ = some (.int .i64 0) := m1.cell 0
      have z1 : w5.cell? ⟨w.heap.size + 1, 1, none⟩ = some (.bool false) := m1.cell 1
      have z2 : w5.cell? ⟨w.heap.size + 1, 2, none⟩ = some (.slice none 0 0) := m1.cell 2
      have z3 : w5.cell? ⟨w.heap.size + 1, 3, none⟩ = some (.slice none 0 0) := m1.cell 3
      have fz1 := m1.frozen
      have fz2 := m2.frozen
      have HH := Lib.hid (And.intro h5 (And.intro f2 (And.intro m1 m2)))
      clear h5 f2 m1 m2
      go_wp2_with fail
      obtain ⟨h5, f2, m1, m2⟩ := HH.out
      obtain ⟨m3, f3⟩ := fin_cells m1 (.int .i64 0) (.bool false) (.slice none 0 0) (.slice none 0 0)
      refine bodyPost_ret (results_cell rfl _ _ _ rfl (seen_load m3)) rfl ?_
      exact ring_end (ks := []) FF.out.2.2.2.1 h5 f2 (by simp [doL]) (keys_no (by simp) (by simp) _) (IntSl.nil _) (by omega) (by omega) m1 m2 (f3.trans (Fr.refl [] _) (by simp) (by simp))
set_option maxRecDepth 100000 in
set_option maxHeartbeats 3200000 in
theorem do1_calls {B rb lb : Nat} {ids : List (Nat × Int)} {row : List Nat} {nv : Value} (on key val : Int) (w : World) (h : RingI B w rb lb ids row nv ids) (hB : B ≤ w.heap.size) (hl : ids.length ≤ 100000000000) (hr : row.length ≤ 100000000000) :
    Calls Try.prog 47 #[.pointer (some ⟨rb, 0, none⟩), .agg #[.int .i64 on, .int .i64 1, .int .i64 key, .int .i64 val]] w (RingO B w rb lb ids row nv ⟨on, 1, key, val⟩) := by
  obtain ⟨i0, hi0, hz0, hz1, hz2⟩ := info_parts Try.infoPN
  have F := three_new w #[.int .i64 on, .int .i64 1, .int .i64 key, .int .i64 val] #[.int .i64 0, .bool false, .slice none 0 0, .slice none 0 0] #[.int .i64 0, .bool false, .slice none 0 0, .slice none 0 0] 28 31 31
  have HR := Lib.hid (((h.alloc (Obj.cells #[.int .i64 on, .int .i64 1, .int .i64 key, .int .i64 val] 28)).alloc (Obj.cells #[.int .i64 0, .bool false, .slice none 0 0, .slice none 0 0] 31)).alloc (Obj.cells #[.int .i64 0, .bool false, .slice none 0 0, .slice none 0 0] 31))
  have HL := Lib.hid h
  clear h
  go_enter Try.func47, Try.ntmps47
  go_wp2_with fail
  generalize ((w.alloc (Obj.cells #[.int .i64 on, .int .i64 1, .int .i64 key, .int .i64 val] 28)).alloc (Obj.cells #[.int .i64 0, .bool false, .slice none 0 0, .slice none 0 0] 31)).alloc (Obj.cells #[.int .i64 0, .bool false, .slice none 0 0, .slice none 0 0] 31) = W at *
  obtain ⟨A0, c0, rfl⟩ := own_form HR.out.nodes
  obtain ⟨r0, r1, l0, l1, rl, ll⟩ := HR.out.cells
  have s1 : W.cell? ⟨w.heap.size, 1, none⟩ = some (.int .i64 1) := F.1.cell 1
  have s2 : W.cell? ⟨w.heap.size, 2, none⟩ = some (.int .i64 key) := F.1.cell 2
  have s3 : W.cell? ⟨w.heap.size, 3, none⟩ = some (.int .i64 val) := F.1.cell 3
  have sl := F.1.lt
  have FF := Lib.hid F
  clear F
  have hWB : B ≤ W.heap.size := Nat.le_trans hB FF.out.2.2.2.1.size
  have hdr : ∀ wx, (∃ n, wx = W.drewN n) → Calls Try.prog 87 #[.pointer (some ⟨lb, 0, none⟩), .int .i64 key] wx fun e w3 => e = .returned (.tuple #[]) ∧ RingI B w3 rb lb (ids ++ [(W.heap.size, key)]) (ids.length :: row) (.slice A0 ids.length c0) ids ∧ Fr (ringS rb lb ids (.slice A0 ids.length c0)) W w3 ∧ w3.cell? ⟨lb, 0, none⟩ = some (.pointer (some ⟨W.heap.size, 0, none⟩)) := by
    rintro wx ⟨n, rfl⟩
    refine (pushed_front key (HR.out.fr (Fr.drewN [] W n) (by simp)) hWB).mono ?_
    rintro e w3 ⟨rfl, h1, f1, c⟩
    exact ⟨rfl, h1, (Fr.drewN _ _ _).comp f1, c⟩
  have HDR := Lib.hid hdr
  clear hdr
  go_region_with (go_at_call 87; refine (HDR.out _ ⟨1, rfl⟩).mono ?_; rintro e w3 ⟨rfl, h1, f2, lk⟩)
  all_goals
    obtain ⟨q0, q1, k0, k1, ql, pl⟩ := h1.cells
    have w3l : W.heap.size ≤ w3.heap.size := f2.size
    clear  r0 r1 l0 l1 rl ll s1 s2 s3 sl
    have hown := h1.nodes
    have H1 := Lib.hid h1
    have F2 := Lib.hid f2
    have M1 : Blk w3 (w.heap.size + 1) _ _ := FF.out.2.1.fr f2 (fun hb => by have := ringS_lt HL.out hb; omega)
    have M2 : Blk w3 (w.heap.size + 1 + 1) _ _ := FF.out.2.2.1.fr f2 (fun hb => by have := ringS_lt HL.out hb; omega)
    have MM := Lib.hid (And.intro M1 M2)
    clear h1 f2 M1 M2
    go_wp2_with fail
    go_region_law (first
      | (refine step_append_lies _ rfl (.tmp 62) (.tmp 70) 79 rfl B 105 i0 _ 1 8 Try.underlying79 hi0 hz0 hz1 hz2 rfl (by omega) (.slice A0 ids.length c0) ids.length (ids.map ptrN) (by rfl) (by with_reducible first | exact (hown.alloc _).drew | exact hown.alloc _ | exact (hown.drew).alloc _) _ 1 1 [ptrN (W.heap.size, key)] (by rfl) (by rfl) (news1 (by simp [ptrN])) (fun _ h => by rw [List.mem_singleton.1 h]; rfl) (by omega) (by unfold maxLen; omega) (by omega) (by simp; omega) _ (by rfl) ?_; intro gg cap w4 hown4 hgrow hat hlt4
         obtain ⟨x1, x2, x3⟩ := app_cells H1.out (by with_reducible first | exact (Fr.alloc [] w3 _).comp (Fr.drewN [] _ 1) | exact Fr.alloc [] w3 _) hgrow
         have HG := Lib.hid (And.intro hown4 hgrow)
         clear hown4 hgrow hat))
    all_goals
      obtain ⟨h5, f5⟩ := app_end F2.out (Nat.le_refl _) H1.out (by with_reducible first | exact (Fr.alloc [] w3 _).comp (Fr.drewN [] _ 1) | exact Fr.alloc [] w3 _) HG.out.1 HG.out.2
      clear x1 x2 x3 q0 q1 k0 k1 hown lk
      generalize (w4.setCell ⟨rb, 1, none⟩ (.slice (some ⟨gg, 0, none⟩) (ids.length + 1) cap)) = w5 at *
      have f2 := f5
      clear f5
      have m1 : Blk w5 (w.heap.size + 1) _ _ := FF.out.2.1.fr f2 (fun hb => by have := ringS_lt HL.out hb; omega)
      have m2 : Blk w5 (w.heap.size + 1 + 1) _ _ := FF.out.2.2.1.fr f2 (fun hb => by have := ringS_lt HL.out hb; omega)
      have y0 : w5.cell? ⟨w.heap.size + 1 + 1, 0, none⟩ = some (.int .i64 0) := m2.cell 0
      have y1 : w5.cell? ⟨w.heap.size + 1 + 1, 1, none⟩ = some (.bool false) := m2.cell 1
      have y2 : w5.cell? ⟨w.heap.size + 1 + 1, 2, none⟩ = some (.slice none 0 0) := m2.cell 2
      have y3 : w5.cell? ⟨w.heap.size + 1 + 1, 3, none⟩ = some (.slice none 0 0) := m2.cell 3
      have z0 : w5.cell? ⟨w.heap.size + 1, 0, none⟩ = some (.int .i64 0) := m1.cell 0
      have z1 : w5.cell? ⟨w.heap.size + 1, 1, none⟩ = some (.bool false) := m1.cell 1
      have z2 : w5.cell? ⟨w.heap.size + 1, 2, none⟩ = some (.slice none 0 0) := m1.cell 2
      have z3 : w5.cell? ⟨w.heap.size + 1, 3, none⟩ = some (.slice none 0 0) := m1.cell 3
      have fz1 := m1.frozen
      have fz2 := m2.frozen
      have HH := Lib.hid (And.intro h5 (And.intro f2 (And.intro m1 m2)))
      clear h5 f2 m1 m2
      go_wp2_with fail
      obtain ⟨h5, f2, m1, m2⟩ := HH.out
      obtain ⟨m3, f3⟩ := fin_cells m1 (.int .i64 0) (.bool false) (.slice none 0 0) (.slice none 0 0)
      refine bodyPost_ret (results_cell rfl _ _ _ rfl (seen_load m3)) rfl ?_
      exact ring_end (ks := []) FF.out.2.2.2.1 h5 f2 (by simp [doL]) (keys_no (by simp) (by simp) _) (IntSl.nil _) (by omega) (by omega) m1 m2 (f3.trans (Fr.refl [] _) (by simp) (by simp))
theorem node_calls {B rb lb : Nat} {ids : List (Nat × Int)} {row : List Nat} {nv : Value} (on act key : Int) (m : Nat) (w : World) (h : RingI B w rb lb ids row nv ids) (hm : m < ids.length) (hl : ids.length ≤ 100000000000) (hr : row.length ≤ 100000000000) (hmay : mayL ⟨ids.map Prod.snd, row⟩ ⟨on, act, key, m⟩) (e0 : act ≠ 0) (e1 : act ≠ 1) (e9 : act ≠ 9) (e5 : act ≠ 5) (e6 : act ≠ 6) :
    Calls Try.prog 89 #[.pointer (some ⟨rb, 0, none⟩), .agg #[.int .i64 on, .int .i64 act, .int .i64 key, .int .i64 (m : Int)]] w (RingO B w rb lb ids row nv ⟨on, act, key, m⟩) := by
  have hin : (act = 2 ∨ act = 7 ∨ act = 8) → m ∈ row := by
    intro e
    unfold mayL at hmay
    rw [if_pos e] at hmay
    obtain ⟨n, hn, e⟩ := hmay
    simp only at e
    obtain rfl : n = m := by omega
    exact hn
  have hout : (act = 3 ∨ act = 4) → m ∉ row := by
    intro e
    unfold mayL at hmay
    rw [if_neg (show ¬ (act = 2 ∨ act = 7 ∨ act = 8) by omega), if_pos e] at hmay
    simpa using hmay.2.2
  by_cases h2 : act = 2
  · subst h2; exact node2_calls on key m w h hm hl hr (hin (by simp))
  by_cases h3 : act = 3
  · subst h3; exact node3_calls on key m w h hm hl hr (hout (by simp))
  by_cases h4 : act = 4
  · subst h4; exact node4_calls on key m w h hm hl hr (hout (by simp))
  by_cases h7 : act = 7
  · subst h7; exact node7_calls on key m w h hm hl hr (hin (by simp))
  by_cases h8 : act = 8
  · subst h8; exact node8_calls on key m w h hm hl hr (hin (by simp))
  exact nodeE_calls on key act m w h hm hl hr (by simpa using h2) (by simpa using h3) (by simpa using h4) (by simpa using h7) (by simpa using h8) e0 e1 e9 e5 e6
/-- a step that is about no node that there is does nothing. -/
theorem do_same {ids : List (Nat × Int)} {row : List Nat} {on act key val : Int} (hlt : ∀ i ∈ row, i < ids.length) (hmay : mayL ⟨ids.map Prod.snd, row⟩ ⟨on, act, key, val⟩) (e0 : act ≠ 0) (e1 : act ≠ 1) (e9 : act ≠ 9) (hv : val < 0 ∨ (ids.length : Int) ≤ val) : (⟨ids.map Prod.snd, row⟩ : LineD) = doL ⟨ids.map Prod.snd, row⟩ ⟨on, act, key, val⟩ := by
  have a1 : ¬ (act = 2 ∨ act = 7 ∨ act = 8) := by
    intro e
    unfold mayL at hmay
    rw [if_pos e] at hmay
    obtain ⟨n, hn, e⟩ := hmay
    have := hlt n hn
    simp only at e
    omega
  have a2 : ¬ (act = 3 ∨ act = 4) := by
    intro e
    unfold mayL at hmay
    rw [if_neg a1, if_pos e] at hmay
    have h2 := hmay.1
    have h3 := hmay.2.1
    simp only [List.length_map] at h2 h3
    omega
  unfold doL
  rw [if_neg e0, if_neg e1, if_neg (fun e => a1 (.inl e)), if_neg (fun e => a2 (.inl e)), if_neg (fun e => a2 (.inr e)), if_neg e9]
theorem ring_end2 {B rb lb s1 : Nat} {w W w1 w2 : World} {ids : List (Nat × Int)} {row : List Nat} {nv : Value} {a : StepD} {e : Ending} (hW : Below w.heap.size w W) (h : RingO B W rb lb ids row nv a e w1) (g1 : w.heap.size ≤ s1) {c1 : Array Value} (m1 : Blk w1 s1 c1 31) (hf : Fr [s1] w1 w2) : RingO B w rb lb ids row nv a e w2 := by
  obtain ⟨ids', row', nv', ks, ka, kc, rfl, h1, h2, h3, h4, h5⟩ := h
  exact ring_end hW h1 h5 h2 h3 h4 g1 g1 m1 m1 (hf.mono (fun b hb => .inl (by rw [List.mem_singleton.1 hb]; simp)))
set_option maxRecDepth 100000 in
set_option maxHeartbeats 3200000 in
theorem doE_calls {B rb lb : Nat} {ids : List (Nat × Int)} {row : List Nat} {nv : Value} (on act key val : Int) (w : World) (h : RingI B w rb lb ids row nv ids) (hB : B ≤ w.heap.size) (hl : ids.length ≤ 100000000000) (hr : row.length ≤ 100000000000) (hmay : mayL ⟨ids.map Prod.snd, row⟩ ⟨on, act, key, val⟩) (e0 : act ≠ 0) (e1 : act ≠ 1) (e9 : act ≠ 9) (e5 : act ≠ 5) (e6 : act ≠ 6) :
    Calls Try.prog 47 #[.pointer (some ⟨rb, 0, none⟩), .agg #[.int .i64 on, .int .i64 act, .int .i64 key, .int .i64 val]] w (RingO B w rb lb ids row nv ⟨on, act, key, val⟩) := by
  have F := three_new w #[.int .i64 on, .int .i64 act, .int .i64 key, .int .i64 val] #[.int .i64 0, .bool false, .slice none 0 0, .slice none 0 0] #[.int .i64 0, .bool false, .slice none 0 0, .slice none 0 0] 28 31 31
  have HR := Lib.hid (((h.alloc (Obj.cells #[.int .i64 on, .int .i64 act, .int .i64 key, .int .i64 val] 28)).alloc (Obj.cells #[.int .i64 0, .bool false, .slice none 0 0, .slice none 0 0] 31)).alloc (Obj.cells #[.int .i64 0, .bool false, .slice none 0 0, .slice none 0 0] 31))
  have HL := Lib.hid h
  clear h
  have b0 : (act == 0) = false := by simpa using e0
  have b1 : (act == 1) = false := by simpa using e1
  have b5 : (act == 5) = false := by simpa using e5
  have b6 : (act == 6) = false := by simpa using e6
  have b9 : (act == 9) = false := by simpa using e9
  have HN := Lib.hid (And.intro e0 (And.intro e1 (And.intro e9 (And.intro e5 (And.intro e6 hmay)))))
  clear e0 e1 e9 e5 e6 hmay
  have hv : val < 0 ∨ (ids.length : Int) ≤ val ∧ 0 ≤ val ∨ ∃ m : Nat, val = m ∧ m < ids.length := by
    by_cases h1 : val < 0
    · exact .inl h1
    by_cases h2 : (ids.length : Int) ≤ val
    · exact .inr (.inl ⟨h2, by omega⟩)
    exact .inr (.inr ⟨val.toNat, by omega, by omega⟩)
  go_enter Try.func47, Try.ntmps47
  go_upto_block 0 with (fail)
  generalize ((w.alloc (Obj.cells #[.int .i64 on, .int .i64 act, .int .i64 key, .int .i64 val] 28)).alloc (Obj.cells #[.int .i64 0, .bool false, .slice none 0 0, .slice none 0 0] 31)).alloc (Obj.cells #[.int .i64 0, .bool false, .slice none 0 0, .slice none 0 0] 31) = W at *
  obtain ⟨A0, c0, rfl⟩ := own_form HR.out.nodes
  obtain ⟨r0, r1, l0, l1, rl, ll⟩ := HR.out.cells
  have s1 : W.cell? ⟨w.heap.size, 1, none⟩ = some (.int .i64 act) := F.1.cell 1
  have s2 : W.cell? ⟨w.heap.size, 2, none⟩ = some (.int .i64 key) := F.1.cell 2
  have s3 : W.cell? ⟨w.heap.size, 3, none⟩ = some (.int .i64 val) := F.1.cell 3
  have sl := F.1.lt
  have FF := Lib.hid F
  clear F
  have F := FF.out
  have y0 : W.cell? ⟨w.heap.size + 1 + 1, 0, none⟩ = some (.int .i64 0) := F.2.2.1.cell 0
  have y1 : W.cell? ⟨w.heap.size + 1 + 1, 1, none⟩ = some (.bool false) := F.2.2.1.cell 1
  have y2 : W.cell? ⟨w.heap.size + 1 + 1, 2, none⟩ = some (.slice none 0 0) := F.2.2.1.cell 2
  have y3 : W.cell? ⟨w.heap.size + 1 + 1, 3, none⟩ = some (.slice none 0 0) := F.2.2.1.cell 3
  have z0 : W.cell? ⟨w.heap.size + 1, 0, none⟩ = some (.int .i64 0) := F.2.1.cell 0
  have z1 : W.cell? ⟨w.heap.size + 1, 1, none⟩ = some (.bool false) := F.2.1.cell 1
  have z2 : W.cell? ⟨w.heap.size + 1, 2, none⟩ = some (.slice none 0 0) := F.2.1.cell 2
  have z3 : W.cell? ⟨w.heap.size + 1, 3, none⟩ = some (.slice none 0 0) := F.2.1.cell 3
  have s0 : W.cell? ⟨w.heap.size, 0, none⟩ = some (.int .i64 on) := F.1.cell 0
  have fz1 := F.2.1.frozen
  have fz2 := F.2.2.1.frozen
  clear F
  rcases hv with hv | ⟨hv, hv2⟩ | ⟨m, rfl, hv⟩
  case' inl => have g1 : (0 ≤ val) = False := eq_false (by omega)
  case' inr.inl =>
    have g1 : (0 ≤ val) = True := eq_true hv2
    have g2 : (val < (ids.length : Int)) = False := eq_false (by omega)
  case' inr.inr =>
    have g1 : (0 ≤ (m : Int)) = True := eq_true (by omega)
    have g2 : ((m : Int) < (ids.length : Int)) = True := eq_true (by omega)
  case' inl => go_wp2_with fail
  case' inr.inl => go_wp2_with fail
  case' inr.inr => go_wp2_with fail
  case' inl => go_quiet (fail)
  case' inr.inl => go_quiet (fail)
  case' inr.inr => go_quiet (fail)
  case' inl => go_wp2_with fail
  case' inr.inl => go_wp2_with fail
  case' inr.inr => go_wp2_with fail
  case inr.inr =>
    obtain ⟨e0, e1, e9, e5, e6, hmay⟩ := HN.out
    have hD : RingI B (W.drewN nq) rb lb ids row (.slice A0 ids.length c0) ids := HR.out.fr (Fr.drewN [] W nq) (by simp)
    refine (node_calls on act key m (W.drewN nq) hD hv hl hr hmay e0 e1 e9 e5 e6).mono ?_
    rintro e w1 hO
    have HO := Lib.hid hO
    obtain ⟨ids', row', nv', ks, ka, kc, rfl, h1, h2, h3, h4, f2⟩ := hO
    have m1 : Blk w1 (w.heap.size + 1) _ _ := (FF.out.2.1.drewN nq : Blk (W.drewN nq) _ _ _).fr f2 (fun hb => by have := ringS_lt HL.out hb; omega)
    have z0 : w1.cell? ⟨w.heap.size + 1, 0, none⟩ = some (.int .i64 0) := m1.cell 0
    have z1 : w1.cell? ⟨w.heap.size + 1, 1, none⟩ = some (.bool false) := m1.cell 1
    have z2 : w1.cell? ⟨w.heap.size + 1, 2, none⟩ = some (.slice none 0 0) := m1.cell 2
    have z3 : w1.cell? ⟨w.heap.size + 1, 3, none⟩ = some (.slice none 0 0) := m1.cell 3
    have fz3 := m1.frozen
    have M1 := Lib.hid m1
    clear h1 h2 h3 h4 f2 m1 hD hmay e0 e1 e9 e5 e6
    go_wp2_with fail
    obtain ⟨m3, f3⟩ := fin_cells M1.out (.int .i64 0) (.bool false) (.slice ka ks.length kc) (.slice none 0 0)
    refine bodyPost_ret (results_cell rfl _ _ _ rfl (seen_load m3)) rfl ?_
    exact ring_end2 (FF.out.2.2.2.1.trans (Below.drewN W nq)) HO.out (by omega) M1.out f3
  all_goals
    obtain ⟨e0, e1, e9, e5, e6, hmay⟩ := HN.out
    have F := FF.out
    have m1 : Blk (W.drewN nq) (w.heap.size + 1) _ _ := F.2.1.drewN nq
    have m2 : Blk (W.drewN nq) (w.heap.size + 1 + 1) _ _ := F.2.2.1.drewN nq
    have hD : RingI B (W.drewN nq) rb lb ids row (.slice A0 ids.length c0) ids := HR.out.fr (Fr.drewN [] W nq) (by simp)
    obtain ⟨m3, f3⟩ := fin_cells m1 (.int .i64 0) (.bool false) (.slice none 0 0) (.slice none 0 0)
    refine bodyPost_ret (results_cell rfl _ _ _ rfl (seen_load m3)) rfl ?_
    exact ring_end (ks := []) (F.2.2.2.1.trans (Below.drewN W nq)) hD (Fr.refl _ _) (do_same HL.out.rowlt hmay e0 e1 e9 (by first | exact .inl hv | exact .inr hv)) (keys_no e5 e6 _) (IntSl.nil _) (by omega) (by omega) m1 m2 (f3.trans (Fr.refl [] _) (by simp) (by simp))
theorem do_calls {B rb lb : Nat} {ids : List (Nat × Int)} {row : List Nat} {nv : Value} (on act key val : Int) (w : World) (h : RingI B w rb lb ids row nv ids) (hB : B ≤ w.heap.size) (hl : ids.length ≤ 100000000000) (hr : row.length ≤ 100000000000) (hmay : mayL ⟨ids.map Prod.snd, row⟩ ⟨on, act, key, val⟩) :
    Calls Try.prog 47 #[.pointer (some ⟨rb, 0, none⟩), .agg #[.int .i64 on, .int .i64 act, .int .i64 key, .int .i64 val]] w (RingO B w rb lb ids row nv ⟨on, act, key, val⟩) := by
  by_cases h0 : act = 0
  · subst h0; exact do0_calls on key val w h hB hl hr
  by_cases h1 : act = 1
  · subst h1; exact do1_calls on key val w h hB hl hr
  by_cases h5 : act = 5
  · subst h5; exact do5_calls on key val w h hB hl hr
  by_cases h6 : act = 6
  · subst h6; exact do6_calls on key val w h hB hl hr
  by_cases h9 : act = 9
  · subst h9; exact do9_calls on key val w h hB hl hr
  exact doE_calls on act key val w h hB hl hr hmay h0 h1 h9 h5 h6
end Go.Proofs.Ytinajjceojfflaa
