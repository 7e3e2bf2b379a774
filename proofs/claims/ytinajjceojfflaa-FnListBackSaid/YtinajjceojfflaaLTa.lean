/- Line.Do: its cases 2 3 4 5 6 E. -/
import Derived.Test.YtinajjceojfflaaLT0
namespace Go.Proofs.Ytinajjceojfflaa.Kp
open Go.RowKit

set_option maxRecDepth 100000 in
set_option maxHeartbeats 3200000 in
theorem zdo2_calls (vals row : List Int) (vv rv : Value) (on key val : Int) (w : World) (hv : NS w vv vals) (hr : NS w rv row) (hn : row.length ≤ 10000000000) (hn2 : vals.length ≤ 10000000000) (hin : val ∈ row) :
    Calls Try.prog 45 #[.agg #[vv, rv], .agg #[.int .i64 on, .int .i64 2, .int .i64 key, .int .i64 val]] w (DoP w (vals) (row.take (row.idxOf val) ++ row.drop (row.idxOf val + 1))) := by
  obtain ⟨i0, hi0, hz0, hz1, hz2⟩ := info_parts Try.infoInt
  obtain ⟨A, c, rfl⟩ := hv.form
  obtain ⟨A2, c2, rfl⟩ := hr.form
  obtain ⟨hM, hS, hW5⟩ := five_new w _ _ #[.int .i64 on, .int .i64 2, .int .i64 key, .int .i64 val] vals row hv hr
  have HC := Lib.hid (lineAt_calls row _ val _ hM.lz.rs (by omega))
  have HM := Lib.hid hM
  have HS := Lib.hid hS
  have HW5 := Lib.hid hW5
  clear hM hS hW5 hv hr
  obtain ⟨i, hi⟩ : ∃ i, i = row.idxOf val := ⟨_, rfl⟩
  have ef : findL row val = (i : Int) := by unfold findL; rw [if_pos hin, hi]
  have hil : i < row.length := by rw [hi]; exact List.idxOf_lt_length_iff.2 hin
  rw [ef] at HC
  rw [← hi]
  clear hi ef hin
  go_enter Try.func45, Try.ntmps45
  go_wp2_with fail
  refine HC.out.mono ?_
  rintro e W ⟨rfl, hW⟩
  rw [hW] at HM HS HW5
  clear hW HC
  have s1 : W.cell? ⟨w.heap.size + 1, 1, none⟩ = some (.int .i64 2) := HS.out.cell 1
  have s2 : W.cell? ⟨w.heap.size + 1, 2, none⟩ = some (.int .i64 key) := HS.out.cell 2
  have s3 : W.cell? ⟨w.heap.size + 1, 3, none⟩ = some (.int .i64 val) := HS.out.cell 3
  have b0 : W.cell? ⟨w.heap.size, 0, none⟩ = some (.slice A vals.length c) := HM.out.lz.blk.cell 0
  have b1 : W.cell? ⟨w.heap.size, 1, none⟩ = some (.slice A2 row.length c2) := HM.out.lz.blk.cell 1
  have fb := HM.out.lz.blk.frozen
  have x2 : W.cell? ⟨w.heap.size + 1 + 1 + 1 + 1, 2, none⟩ = some (.slice none 0 0) := HM.out.x.cell 2
  have fx := HM.out.x.frozen
  have sl := HS.out.lt
  have bl := HM.out.lz.blk.lt
  go_wp2_with fail
  refine (cut_calls row _ i W HM.out.lz.rs hil (by omega)).mono ?_
  rintro e w6 ⟨v, rfl, o1, bb⟩
  have hN := own_NS rfl o1
  obtain ⟨A3, c3, rfl⟩ := own_form o1
  have hM6 := HM.out.below bb
  have d1 : w6.cell? ⟨w.heap.size, 1, none⟩ = some (.slice A2 row.length c2) := hM6.lz.blk.cell 1
  have fd := hM6.lz.blk.frozen
  have hM5 := hM6.set 1 _ rfl hM6.lz.vs hN
  clear o1 bb hN hM6
  generalize row.take i ++ row.drop (i + 1) = row2 at *
  obtain ⟨w5, hw5⟩ : ∃ w5, w5 = w6.setCell ⟨w.heap.size, 1, none⟩ (.slice A3 row2.length c3) := ⟨_, rfl⟩
  have HM5 := Lib.hid hM5
  rw [← hw5] at HM5
  clear hM5 s1 s2 s3 b0 b1 fb x2 fx sl bl
  go_upto_region 26 with (fail)
  rw [← hw5]
  clear hw5
  have b0 : w5.cell? ⟨w.heap.size, 0, none⟩ = some (.slice A vals.length c) := HM5.out.lz.blk.cell 0
  have b1 : w5.cell? ⟨w.heap.size, 1, none⟩ = some (.slice A3 row2.length c3) := HM5.out.lz.blk.cell 1
  have x0 : w5.cell? ⟨w.heap.size + 1 + 1 + 1 + 1, 0, none⟩ = some (.int .i64 0) := HM5.out.x.cell 0
  have x1 : w5.cell? ⟨w.heap.size + 1 + 1 + 1 + 1, 1, none⟩ = some (.bool false) := HM5.out.x.cell 1
  have x2 : w5.cell? ⟨w.heap.size + 1 + 1 + 1 + 1, 2, none⟩ = some (.slice none 0 0) := HM5.out.x.cell 2
  have x3 : w5.cell? ⟨w.heap.size + 1 + 1 + 1 + 1, 3, none⟩ = some (.slice none 0 0) := HM5.out.x.cell 3
  have y0 : w5.cell? ⟨w.heap.size + 1 + 1, 0, none⟩ = some (.slice none 0 0) := HM5.out.r1.cell 0
  have y1 : w5.cell? ⟨w.heap.size + 1 + 1, 1, none⟩ = some (.slice none 0 0) := HM5.out.r1.cell 1
  have z0 : w5.cell? ⟨w.heap.size + 1 + 1 + 1, 0, none⟩ = some (.int .i64 0) := HM5.out.r2.cell 0
  have z1 : w5.cell? ⟨w.heap.size + 1 + 1 + 1, 1, none⟩ = some (.bool false) := HM5.out.r2.cell 1
  have z2 : w5.cell? ⟨w.heap.size + 1 + 1 + 1, 2, none⟩ = some (.slice none 0 0) := HM5.out.r2.cell 2
  have z3 : w5.cell? ⟨w.heap.size + 1 + 1 + 1, 3, none⟩ = some (.slice none 0 0) := HM5.out.r2.cell 3
  have f1 := HM5.out.r1.frozen
  have f2 := HM5.out.r2.frozen
  have l1 := HM5.out.lz.blk.lt
  have l2 := HM5.out.x.lt
  go_region_with (fail)
  all_goals
    go_wp2_with fail
    refine bodyPost_ret (v := .tuple #[.agg #[.slice A vals.length c, .slice A3 row2.length c3], .agg #[.int .i64 0, .bool false, .slice none 0 0, .slice none 0 0]]) (by simp [results, Try.results45, go_sem, y0, y1, z0, z1, z2, z3]) rfl ?_
    with_reducible exact do_fin9 (by simp) (by simp) HM5.out
set_option maxRecDepth 100000 in
set_option maxHeartbeats 3200000 in
theorem zdo3_calls (vals row : List Int) (vv rv : Value) (on key val : Int) (w : World) (hv : NS w vv vals) (hr : NS w rv row) (hn : row.length ≤ 10000000000) (hn2 : vals.length ≤ 10000000000) :
    Calls Try.prog 45 #[.agg #[vv, rv], .agg #[.int .i64 on, .int .i64 3, .int .i64 key, .int .i64 val]] w (DoP w (vals) (row ++ [val])) := by
  obtain ⟨i0, hi0, hz0, hz1, hz2⟩ := info_parts Try.infoInt
  obtain ⟨A, c, rfl⟩ := hv.form
  obtain ⟨A2, c2, rfl⟩ := hr.form
  obtain ⟨hM, hS, hW5⟩ := five_new w _ _ #[.int .i64 on, .int .i64 3, .int .i64 key, .int .i64 val] vals row hv hr
  have HC := Lib.hid (lineAt_calls row _ val _ hM.lz.rs (by omega))
  have HM := Lib.hid hM
  have HS := Lib.hid hS
  have HW5 := Lib.hid hW5
  clear hM hS hW5 hv hr
  go_enter Try.func45, Try.ntmps45
  go_wp2_with fail
  refine HC.out.mono ?_
  rintro e W ⟨rfl, hW⟩
  rw [hW] at HM HS HW5
  clear hW HC
  have s1 : W.cell? ⟨w.heap.size + 1, 1, none⟩ = some (.int .i64 3) := HS.out.cell 1
  have s2 : W.cell? ⟨w.heap.size + 1, 2, none⟩ = some (.int .i64 key) := HS.out.cell 2
  have s3 : W.cell? ⟨w.heap.size + 1, 3, none⟩ = some (.int .i64 val) := HS.out.cell 3
  have b0 : W.cell? ⟨w.heap.size, 0, none⟩ = some (.slice A vals.length c) := HM.out.lz.blk.cell 0
  have b1 : W.cell? ⟨w.heap.size, 1, none⟩ = some (.slice A2 row.length c2) := HM.out.lz.blk.cell 1
  have fb := HM.out.lz.blk.frozen
  have x2 : W.cell? ⟨w.heap.size + 1 + 1 + 1 + 1, 2, none⟩ = some (.slice none 0 0) := HM.out.x.cell 2
  have fx := HM.out.x.frozen
  have sl := HS.out.lt
  have bl := HM.out.lz.blk.lt
  go_wp2_with fail
  refine (back_calls _ _ _ vals row val W HM.out.lz (by omega)).mono ?_
  rintro e w6 ⟨v, rfl, o1, bb⟩
  have hN := own_NS rfl o1
  obtain ⟨A3, c3, rfl⟩ := own_form o1
  have hM6 := HM.out.below bb
  have d1 : w6.cell? ⟨w.heap.size, 1, none⟩ = some (.slice A2 row.length c2) := hM6.lz.blk.cell 1
  have fd := hM6.lz.blk.frozen
  have hM5 := hM6.set 1 _ rfl hM6.lz.vs hN
  clear o1 bb hN hM6
  generalize (row ++ [val]) = row2 at *
  obtain ⟨w5, hw5⟩ : ∃ w5, w5 = w6.setCell ⟨w.heap.size, 1, none⟩ (.slice A3 row2.length c3) := ⟨_, rfl⟩
  have HM5 := Lib.hid hM5
  rw [← hw5] at HM5
  clear hM5 s1 s2 s3 b0 b1 fb x2 fx sl bl
  go_upto_region 26 with (fail)
  rw [← hw5]
  clear hw5
  have b0 : w5.cell? ⟨w.heap.size, 0, none⟩ = some (.slice A vals.length c) := HM5.out.lz.blk.cell 0
  have b1 : w5.cell? ⟨w.heap.size, 1, none⟩ = some (.slice A3 row2.length c3) := HM5.out.lz.blk.cell 1
  have x0 : w5.cell? ⟨w.heap.size + 1 + 1 + 1 + 1, 0, none⟩ = some (.int .i64 0) := HM5.out.x.cell 0
  have x1 : w5.cell? ⟨w.heap.size + 1 + 1 + 1 + 1, 1, none⟩ = some (.bool false) := HM5.out.x.cell 1
  have x2 : w5.cell? ⟨w.heap.size + 1 + 1 + 1 + 1, 2, none⟩ = some (.slice none 0 0) := HM5.out.x.cell 2
  have x3 : w5.cell? ⟨w.heap.size + 1 + 1 + 1 + 1, 3, none⟩ = some (.slice none 0 0) := HM5.out.x.cell 3
  have y0 : w5.cell? ⟨w.heap.size + 1 + 1, 0, none⟩ = some (.slice none 0 0) := HM5.out.r1.cell 0
  have y1 : w5.cell? ⟨w.heap.size + 1 + 1, 1, none⟩ = some (.slice none 0 0) := HM5.out.r1.cell 1
  have z0 : w5.cell? ⟨w.heap.size + 1 + 1 + 1, 0, none⟩ = some (.int .i64 0) := HM5.out.r2.cell 0
  have z1 : w5.cell? ⟨w.heap.size + 1 + 1 + 1, 1, none⟩ = some (.bool false) := HM5.out.r2.cell 1
  have z2 : w5.cell? ⟨w.heap.size + 1 + 1 + 1, 2, none⟩ = some (.slice none 0 0) := HM5.out.r2.cell 2
  have z3 : w5.cell? ⟨w.heap.size + 1 + 1 + 1, 3, none⟩ = some (.slice none 0 0) := HM5.out.r2.cell 3
  have f1 := HM5.out.r1.frozen
  have f2 := HM5.out.r2.frozen
  have l1 := HM5.out.lz.blk.lt
  have l2 := HM5.out.x.lt
  go_region_with (fail)
  all_goals
    go_wp2_with fail
    refine bodyPost_ret (v := .tuple #[.agg #[.slice A vals.length c, .slice A3 row2.length c3], .agg #[.int .i64 0, .bool false, .slice none 0 0, .slice none 0 0]]) (by simp [results, Try.results45, go_sem, y0, y1, z0, z1, z2, z3]) rfl ?_
    with_reducible exact do_fin9 (by simp) (by simp) HM5.out
set_option maxRecDepth 100000 in
set_option maxHeartbeats 3200000 in
theorem zdo4_calls (vals row : List Int) (vv rv : Value) (on key val : Int) (w : World) (hv : NS w vv vals) (hr : NS w rv row) (hn : row.length ≤ 10000000000) (hn2 : vals.length ≤ 10000000000) :
    Calls Try.prog 45 #[.agg #[vv, rv], .agg #[.int .i64 on, .int .i64 4, .int .i64 key, .int .i64 val]] w (DoP w (vals) (val :: row)) := by
  obtain ⟨i0, hi0, hz0, hz1, hz2⟩ := info_parts Try.infoInt
  obtain ⟨A, c, rfl⟩ := hv.form
  obtain ⟨A2, c2, rfl⟩ := hr.form
  obtain ⟨hM, hS, hW5⟩ := five_new w _ _ #[.int .i64 on, .int .i64 4, .int .i64 key, .int .i64 val] vals row hv hr
  have HC := Lib.hid (lineAt_calls row _ val _ hM.lz.rs (by omega))
  have HM := Lib.hid hM
  have HS := Lib.hid hS
  have HW5 := Lib.hid hW5
  clear hM hS hW5 hv hr
  go_enter Try.func45, Try.ntmps45
  go_wp2_with fail
  refine HC.out.mono ?_
  rintro e W ⟨rfl, hW⟩
  rw [hW] at HM HS HW5
  clear hW HC
  have s1 : W.cell? ⟨w.heap.size + 1, 1, none⟩ = some (.int .i64 4) := HS.out.cell 1
  have s2 : W.cell? ⟨w.heap.size + 1, 2, none⟩ = some (.int .i64 key) := HS.out.cell 2
  have s3 : W.cell? ⟨w.heap.size + 1, 3, none⟩ = some (.int .i64 val) := HS.out.cell 3
  have b0 : W.cell? ⟨w.heap.size, 0, none⟩ = some (.slice A vals.length c) := HM.out.lz.blk.cell 0
  have b1 : W.cell? ⟨w.heap.size, 1, none⟩ = some (.slice A2 row.length c2) := HM.out.lz.blk.cell 1
  have fb := HM.out.lz.blk.frozen
  have x2 : W.cell? ⟨w.heap.size + 1 + 1 + 1 + 1, 2, none⟩ = some (.slice none 0 0) := HM.out.x.cell 2
  have fx := HM.out.x.frozen
  have sl := HS.out.lt
  have bl := HM.out.lz.blk.lt
  go_wp2_with fail
  refine (front_calls _ _ _ vals row val W HM.out.lz (by omega)).mono ?_
  rintro e w6 ⟨v, rfl, o1, bb⟩
  have hN := own_NS rfl o1
  obtain ⟨A3, c3, rfl⟩ := own_form o1
  have hM6 := HM.out.below bb
  have d1 : w6.cell? ⟨w.heap.size, 1, none⟩ = some (.slice A2 row.length c2) := hM6.lz.blk.cell 1
  have fd := hM6.lz.blk.frozen
  have hM5 := hM6.set 1 _ rfl hM6.lz.vs hN
  clear o1 bb hN hM6
  generalize (val :: row) = row2 at *
  obtain ⟨w5, hw5⟩ : ∃ w5, w5 = w6.setCell ⟨w.heap.size, 1, none⟩ (.slice A3 row2.length c3) := ⟨_, rfl⟩
  have HM5 := Lib.hid hM5
  rw [← hw5] at HM5
  clear hM5 s1 s2 s3 b0 b1 fb x2 fx sl bl
  go_upto_region 26 with (fail)
  rw [← hw5]
  clear hw5
  have b0 : w5.cell? ⟨w.heap.size, 0, none⟩ = some (.slice A vals.length c) := HM5.out.lz.blk.cell 0
  have b1 : w5.cell? ⟨w.heap.size, 1, none⟩ = some (.slice A3 row2.length c3) := HM5.out.lz.blk.cell 1
  have x0 : w5.cell? ⟨w.heap.size + 1 + 1 + 1 + 1, 0, none⟩ = some (.int .i64 0) := HM5.out.x.cell 0
  have x1 : w5.cell? ⟨w.heap.size + 1 + 1 + 1 + 1, 1, none⟩ = some (.bool false) := HM5.out.x.cell 1
  have x2 : w5.cell? ⟨w.heap.size + 1 + 1 + 1 + 1, 2, none⟩ = some (.slice none 0 0) := HM5.out.x.cell 2
  have x3 : w5.cell? ⟨w.heap.size + 1 + 1 + 1 + 1, 3, none⟩ = some (.slice none 0 0) := HM5.out.x.cell 3
  have y0 : w5.cell? ⟨w.heap.size + 1 + 1, 0, none⟩ = some (.slice none 0 0) := HM5.out.r1.cell 0
  have y1 : w5.cell? ⟨w.heap.size + 1 + 1, 1, none⟩ = some (.slice none 0 0) := HM5.out.r1.cell 1
  have z0 : w5.cell? ⟨w.heap.size + 1 + 1 + 1, 0, none⟩ = some (.int .i64 0) := HM5.out.r2.cell 0
  have z1 : w5.cell? ⟨w.heap.size + 1 + 1 + 1, 1, none⟩ = some (.bool false) := HM5.out.r2.cell 1
  have z2 : w5.cell? ⟨w.heap.size + 1 + 1 + 1, 2, none⟩ = some (.slice none 0 0) := HM5.out.r2.cell 2
  have z3 : w5.cell? ⟨w.heap.size + 1 + 1 + 1, 3, none⟩ = some (.slice none 0 0) := HM5.out.r2.cell 3
  have f1 := HM5.out.r1.frozen
  have f2 := HM5.out.r2.frozen
  have l1 := HM5.out.lz.blk.lt
  have l2 := HM5.out.x.lt
  go_region_with (fail)
  all_goals
    go_wp2_with fail
    refine bodyPost_ret (v := .tuple #[.agg #[.slice A vals.length c, .slice A3 row2.length c3], .agg #[.int .i64 0, .bool false, .slice none 0 0, .slice none 0 0]]) (by simp [results, Try.results45, go_sem, y0, y1, z0, z1, z2, z3]) rfl ?_
    with_reducible exact do_fin9 (by simp) (by simp) HM5.out
set_option maxRecDepth 100000 in
set_option maxHeartbeats 3200000 in
theorem zdo5_calls (vals row : List Int) (vv rv : Value) (on key val : Int) (w : World) (hv : NS w vv vals) (hr : NS w rv row) (hn : row.length ≤ 10000000000) (hn2 : vals.length ≤ 10000000000) (hin : ∀ x ∈ row, 0 ≤ x ∧ x < vals.length) :
    Calls Try.prog 45 #[.agg #[vv, rv], .agg #[.int .i64 on, .int .i64 5, .int .i64 key, .int .i64 val]] w (DoP w (vals) (row)) := by
  obtain ⟨i0, hi0, hz0, hz1, hz2⟩ := info_parts Try.infoInt
  obtain ⟨A, c, rfl⟩ := hv.form
  obtain ⟨A2, c2, rfl⟩ := hr.form
  obtain ⟨hM, hS, hW5⟩ := five_new w _ _ #[.int .i64 on, .int .i64 5, .int .i64 key, .int .i64 val] vals row hv hr
  have HC := Lib.hid (lineAt_calls row _ val _ hM.lz.rs (by omega))
  have HM := Lib.hid hM
  have HS := Lib.hid hS
  have HW5 := Lib.hid hW5
  clear hM hS hW5 hv hr
  go_enter Try.func45, Try.ntmps45
  go_wp2_with fail
  refine HC.out.mono ?_
  rintro e W ⟨rfl, hW⟩
  rw [hW] at HM HS HW5
  clear hW HC
  have s1 : W.cell? ⟨w.heap.size + 1, 1, none⟩ = some (.int .i64 5) := HS.out.cell 1
  have s2 : W.cell? ⟨w.heap.size + 1, 2, none⟩ = some (.int .i64 key) := HS.out.cell 2
  have s3 : W.cell? ⟨w.heap.size + 1, 3, none⟩ = some (.int .i64 val) := HS.out.cell 3
  have b0 : W.cell? ⟨w.heap.size, 0, none⟩ = some (.slice A vals.length c) := HM.out.lz.blk.cell 0
  have b1 : W.cell? ⟨w.heap.size, 1, none⟩ = some (.slice A2 row.length c2) := HM.out.lz.blk.cell 1
  have fb := HM.out.lz.blk.frozen
  have x2 : W.cell? ⟨w.heap.size + 1 + 1 + 1 + 1, 2, none⟩ = some (.slice none 0 0) := HM.out.x.cell 2
  have fx := HM.out.x.frozen
  have sl := HS.out.lt
  have bl := HM.out.lz.blk.lt
  go_wp2_with fail
  refine (lineRow_calls vals row _ _ W HM.out.lz.vs HM.out.lz.rs (by omega) (by omega) hin).mono ?_
  rintro e w6 ⟨v, zs, rfl, hz, o1, bb⟩
  obtain ⟨A3, c3, rfl⟩ := own_form o1
  have hM6 := HM.out.below bb
  have d1 : w6.cell? ⟨w.heap.size + 1 + 1 + 1 + 1, 2, none⟩ = some (.slice none 0 0) := hM6.x.cell 2
  have fd := hM6.x.frozen
  have hM5 := hM6.setX (.slice A3 row.length c3)
  clear o1 bb hM6
  obtain ⟨w5, hw5⟩ : ∃ w5, w5 = w6.setCell ⟨w.heap.size + 1 + 1 + 1 + 1, 2, none⟩ (.slice A3 row.length c3) := ⟨_, rfl⟩
  have HM5 := Lib.hid hM5
  rw [← hw5] at HM5
  clear hM5 s1 s2 s3 b0 b1 fb x2 fx sl bl
  go_upto_region 26 with (fail)
  rw [← hw5]
  clear hw5
  have b0 : w5.cell? ⟨w.heap.size, 0, none⟩ = some (.slice A vals.length c) := HM5.out.lz.blk.cell 0
  have b1 : w5.cell? ⟨w.heap.size, 1, none⟩ = some (.slice A2 row.length c2) := HM5.out.lz.blk.cell 1
  have x0 : w5.cell? ⟨w.heap.size + 1 + 1 + 1 + 1, 0, none⟩ = some (.int .i64 0) := HM5.out.x.cell 0
  have x1 : w5.cell? ⟨w.heap.size + 1 + 1 + 1 + 1, 1, none⟩ = some (.bool false) := HM5.out.x.cell 1
  have x2 : w5.cell? ⟨w.heap.size + 1 + 1 + 1 + 1, 2, none⟩ = some (.slice A3 row.length c3) := HM5.out.x.cell 2
  have x3 : w5.cell? ⟨w.heap.size + 1 + 1 + 1 + 1, 3, none⟩ = some (.slice none 0 0) := HM5.out.x.cell 3
  have y0 : w5.cell? ⟨w.heap.size + 1 + 1, 0, none⟩ = some (.slice none 0 0) := HM5.out.r1.cell 0
  have y1 : w5.cell? ⟨w.heap.size + 1 + 1, 1, none⟩ = some (.slice none 0 0) := HM5.out.r1.cell 1
  have z0 : w5.cell? ⟨w.heap.size + 1 + 1 + 1, 0, none⟩ = some (.int .i64 0) := HM5.out.r2.cell 0
  have z1 : w5.cell? ⟨w.heap.size + 1 + 1 + 1, 1, none⟩ = some (.bool false) := HM5.out.r2.cell 1
  have z2 : w5.cell? ⟨w.heap.size + 1 + 1 + 1, 2, none⟩ = some (.slice none 0 0) := HM5.out.r2.cell 2
  have z3 : w5.cell? ⟨w.heap.size + 1 + 1 + 1, 3, none⟩ = some (.slice none 0 0) := HM5.out.r2.cell 3
  have f1 := HM5.out.r1.frozen
  have f2 := HM5.out.r2.frozen
  have l1 := HM5.out.lz.blk.lt
  have l2 := HM5.out.x.lt
  go_region_with (fail)
  all_goals
    go_wp2_with fail
    refine bodyPost_ret (v := .tuple #[.agg #[.slice A vals.length c, .slice A2 row.length c2], .agg #[.int .i64 0, .bool false, .slice A3 row.length c3, .slice none 0 0]]) (by simp [results, Try.results45, go_sem, y0, y1, z0, z1, z2, z3]) rfl ?_
    with_reducible exact do_fin9 (by simp) (by simp) HM5.out
set_option maxRecDepth 100000 in
set_option maxHeartbeats 3200000 in
theorem zdo6_calls (vals row : List Int) (vv rv : Value) (on key val : Int) (w : World) (hv : NS w vv vals) (hr : NS w rv row) (hn : row.length ≤ 10000000000) (hn2 : vals.length ≤ 10000000000) (hin : ∀ x ∈ row, 0 ≤ x ∧ x < vals.length) :
    Calls Try.prog 45 #[.agg #[vv, rv], .agg #[.int .i64 on, .int .i64 6, .int .i64 key, .int .i64 val]] w (DoP w (vals) (row)) := by
  obtain ⟨i0, hi0, hz0, hz1, hz2⟩ := info_parts Try.infoInt
  obtain ⟨A, c, rfl⟩ := hv.form
  obtain ⟨A2, c2, rfl⟩ := hr.form
  obtain ⟨hM, hS, hW5⟩ := five_new w _ _ #[.int .i64 on, .int .i64 6, .int .i64 key, .int .i64 val] vals row hv hr
  have HC := Lib.hid (lineAt_calls row _ val _ hM.lz.rs (by omega))
  have HM := Lib.hid hM
  have HS := Lib.hid hS
  have HW5 := Lib.hid hW5
  clear hM hS hW5 hv hr
  go_enter Try.func45, Try.ntmps45
  go_wp2_with fail
  refine HC.out.mono ?_
  rintro e W ⟨rfl, hW⟩
  rw [hW] at HM HS HW5
  clear hW HC
  have s1 : W.cell? ⟨w.heap.size + 1, 1, none⟩ = some (.int .i64 6) := HS.out.cell 1
  have s2 : W.cell? ⟨w.heap.size + 1, 2, none⟩ = some (.int .i64 key) := HS.out.cell 2
  have s3 : W.cell? ⟨w.heap.size + 1, 3, none⟩ = some (.int .i64 val) := HS.out.cell 3
  have b0 : W.cell? ⟨w.heap.size, 0, none⟩ = some (.slice A vals.length c) := HM.out.lz.blk.cell 0
  have b1 : W.cell? ⟨w.heap.size, 1, none⟩ = some (.slice A2 row.length c2) := HM.out.lz.blk.cell 1
  have fb := HM.out.lz.blk.frozen
  have x2 : W.cell? ⟨w.heap.size + 1 + 1 + 1 + 1, 2, none⟩ = some (.slice none 0 0) := HM.out.x.cell 2
  have fx := HM.out.x.frozen
  have sl := HS.out.lt
  have bl := HM.out.lz.blk.lt
  go_wp2_with fail
  refine (lineRow_calls vals row _ _ W HM.out.lz.vs HM.out.lz.rs (by omega) (by omega) hin).mono ?_
  rintro e w7 ⟨v, zs, rfl, hz, o0, bb0⟩
  have hM7 := HM.out.below bb0
  have hN7 : NS w7 v zs := own_NS hz o0
  obtain ⟨A4, c4, rfl⟩ := own_form o0
  have HT := Lib.hid (lineTurned_calls zs _ w7 hN7 (by omega))
  rw [hz] at HT
  clear o0 bb0 hN7
  go_wp2_with fail
  refine HT.out.mono ?_
  rintro e w6 ⟨v, zs2, rfl, hz2', o1, bb⟩
  obtain ⟨A3, c3, rfl⟩ := own_form o1
  have hM6 := hM7.below bb
  have d1 : w6.cell? ⟨w.heap.size + 1 + 1 + 1 + 1, 2, none⟩ = some (.slice none 0 0) := hM6.x.cell 2
  have fd := hM6.x.frozen
  have hM5 := hM6.setX (.slice A3 row.length c3)
  clear o1 bb hM6
  obtain ⟨w5, hw5⟩ : ∃ w5, w5 = w6.setCell ⟨w.heap.size + 1 + 1 + 1 + 1, 2, none⟩ (.slice A3 row.length c3) := ⟨_, rfl⟩
  have HM5 := Lib.hid hM5
  rw [← hw5] at HM5
  clear hM5 s1 s2 s3 b0 b1 fb x2 fx sl bl
  go_upto_region 26 with (fail)
  rw [← hw5]
  clear hw5
  have b0 : w5.cell? ⟨w.heap.size, 0, none⟩ = some (.slice A vals.length c) := HM5.out.lz.blk.cell 0
  have b1 : w5.cell? ⟨w.heap.size, 1, none⟩ = some (.slice A2 row.length c2) := HM5.out.lz.blk.cell 1
  have x0 : w5.cell? ⟨w.heap.size + 1 + 1 + 1 + 1, 0, none⟩ = some (.int .i64 0) := HM5.out.x.cell 0
  have x1 : w5.cell? ⟨w.heap.size + 1 + 1 + 1 + 1, 1, none⟩ = some (.bool false) := HM5.out.x.cell 1
  have x2 : w5.cell? ⟨w.heap.size + 1 + 1 + 1 + 1, 2, none⟩ = some (.slice A3 row.length c3) := HM5.out.x.cell 2
  have x3 : w5.cell? ⟨w.heap.size + 1 + 1 + 1 + 1, 3, none⟩ = some (.slice none 0 0) := HM5.out.x.cell 3
  have y0 : w5.cell? ⟨w.heap.size + 1 + 1, 0, none⟩ = some (.slice none 0 0) := HM5.out.r1.cell 0
  have y1 : w5.cell? ⟨w.heap.size + 1 + 1, 1, none⟩ = some (.slice none 0 0) := HM5.out.r1.cell 1
  have z0 : w5.cell? ⟨w.heap.size + 1 + 1 + 1, 0, none⟩ = some (.int .i64 0) := HM5.out.r2.cell 0
  have z1 : w5.cell? ⟨w.heap.size + 1 + 1 + 1, 1, none⟩ = some (.bool false) := HM5.out.r2.cell 1
  have z2 : w5.cell? ⟨w.heap.size + 1 + 1 + 1, 2, none⟩ = some (.slice none 0 0) := HM5.out.r2.cell 2
  have z3 : w5.cell? ⟨w.heap.size + 1 + 1 + 1, 3, none⟩ = some (.slice none 0 0) := HM5.out.r2.cell 3
  have f1 := HM5.out.r1.frozen
  have f2 := HM5.out.r2.frozen
  have l1 := HM5.out.lz.blk.lt
  have l2 := HM5.out.x.lt
  go_region_with (fail)
  all_goals
    go_wp2_with fail
    refine bodyPost_ret (v := .tuple #[.agg #[.slice A vals.length c, .slice A2 row.length c2], .agg #[.int .i64 0, .bool false, .slice A3 row.length c3, .slice none 0 0]]) (by simp [results, Try.results45, go_sem, y0, y1, z0, z1, z2, z3]) rfl ?_
    with_reducible exact do_fin9 (by simp) (by simp) HM5.out
set_option maxRecDepth 100000 in
set_option maxHeartbeats 3200000 in
theorem zdoE_calls (vals row : List Int) (vv rv : Value) (on key val : Int) (act : Int) (w : World) (hv : NS w vv vals) (hr : NS w rv row) (hn : row.length ≤ 10000000000) (hn2 : vals.length ≤ 10000000000) (e0 : (act == 0) = false) (e1 : (act == 1) = false) (e2 : (act == 2) = false) (e3 : (act == 3) = false) (e4 : (act == 4) = false) (e5 : (act == 5) = false) (e6 : (act == 6) = false) (e7 : (act == 7) = false) (e8 : (act == 8) = false) (e9 : (act == 9) = false) :
    Calls Try.prog 45 #[.agg #[vv, rv], .agg #[.int .i64 on, .int .i64 act, .int .i64 key, .int .i64 val]] w (DoP w (vals) (row)) := by
  obtain ⟨i0, hi0, hz0, hz1, hz2⟩ := info_parts Try.infoInt
  obtain ⟨A, c, rfl⟩ := hv.form
  obtain ⟨A2, c2, rfl⟩ := hr.form
  obtain ⟨hM, hS, hW5⟩ := five_new w _ _ #[.int .i64 on, .int .i64 act, .int .i64 key, .int .i64 val] vals row hv hr
  have HC := Lib.hid (lineAt_calls row _ val _ hM.lz.rs (by omega))
  have HM := Lib.hid hM
  have HS := Lib.hid hS
  have HW5 := Lib.hid hW5
  clear hM hS hW5 hv hr
  go_enter Try.func45, Try.ntmps45
  go_wp2_with fail
  refine HC.out.mono ?_
  rintro e W ⟨rfl, hW⟩
  rw [hW] at HM HS HW5
  clear hW HC
  have s1 : W.cell? ⟨w.heap.size + 1, 1, none⟩ = some (.int .i64 act) := HS.out.cell 1
  have s2 : W.cell? ⟨w.heap.size + 1, 2, none⟩ = some (.int .i64 key) := HS.out.cell 2
  have s3 : W.cell? ⟨w.heap.size + 1, 3, none⟩ = some (.int .i64 val) := HS.out.cell 3
  have b0 : W.cell? ⟨w.heap.size, 0, none⟩ = some (.slice A vals.length c) := HM.out.lz.blk.cell 0
  have b1 : W.cell? ⟨w.heap.size, 1, none⟩ = some (.slice A2 row.length c2) := HM.out.lz.blk.cell 1
  have fb := HM.out.lz.blk.frozen
  have x2 : W.cell? ⟨w.heap.size + 1 + 1 + 1 + 1, 2, none⟩ = some (.slice none 0 0) := HM.out.x.cell 2
  have fx := HM.out.x.frozen
  have sl := HS.out.lt
  have bl := HM.out.lz.blk.lt
  have hM5 := HM.out
  obtain ⟨w5, hw5⟩ : ∃ w5, w5 = W := ⟨_, rfl⟩
  have HM5 := Lib.hid hM5
  rw [← hw5] at HM5
  clear hM5 s2 s3
  go_upto_region 26 with (fail)
  obtain rfl := hw5
  have b0 : w5.cell? ⟨w.heap.size, 0, none⟩ = some (.slice A vals.length c) := HM5.out.lz.blk.cell 0
  have b1 : w5.cell? ⟨w.heap.size, 1, none⟩ = some (.slice A2 row.length c2) := HM5.out.lz.blk.cell 1
  have x0 : w5.cell? ⟨w.heap.size + 1 + 1 + 1 + 1, 0, none⟩ = some (.int .i64 0) := HM5.out.x.cell 0
  have x1 : w5.cell? ⟨w.heap.size + 1 + 1 + 1 + 1, 1, none⟩ = some (.bool false) := HM5.out.x.cell 1
  have x2 : w5.cell? ⟨w.heap.size + 1 + 1 + 1 + 1, 2, none⟩ = some (.slice none 0 0) := HM5.out.x.cell 2
  have x3 : w5.cell? ⟨w.heap.size + 1 + 1 + 1 + 1, 3, none⟩ = some (.slice none 0 0) := HM5.out.x.cell 3
  have y0 : w5.cell? ⟨w.heap.size + 1 + 1, 0, none⟩ = some (.slice none 0 0) := HM5.out.r1.cell 0
  have y1 : w5.cell? ⟨w.heap.size + 1 + 1, 1, none⟩ = some (.slice none 0 0) := HM5.out.r1.cell 1
  have z0 : w5.cell? ⟨w.heap.size + 1 + 1 + 1, 0, none⟩ = some (.int .i64 0) := HM5.out.r2.cell 0
  have z1 : w5.cell? ⟨w.heap.size + 1 + 1 + 1, 1, none⟩ = some (.bool false) := HM5.out.r2.cell 1
  have z2 : w5.cell? ⟨w.heap.size + 1 + 1 + 1, 2, none⟩ = some (.slice none 0 0) := HM5.out.r2.cell 2
  have z3 : w5.cell? ⟨w.heap.size + 1 + 1 + 1, 3, none⟩ = some (.slice none 0 0) := HM5.out.r2.cell 3
  have f1 := HM5.out.r1.frozen
  have f2 := HM5.out.r2.frozen
  have l1 := HM5.out.lz.blk.lt
  have l2 := HM5.out.x.lt
  go_region_with (fail)
  all_goals
    go_wp2_with fail
    refine bodyPost_ret (v := .tuple #[.agg #[.slice A vals.length c, .slice A2 row.length c2], .agg #[.int .i64 0, .bool false, .slice none 0 0, .slice none 0 0]]) (by simp [results, Try.results45, go_sem, y0, y1, z0, z1, z2, z3]) rfl ?_
    with_reducible exact do_fin9 (by simp) (by simp) HM5.out
end Go.Proofs.Ytinajjceojfflaa.Kp
