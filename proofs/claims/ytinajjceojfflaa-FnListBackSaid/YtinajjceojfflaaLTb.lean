/- Line.Do: its cases 7 8. -/
import Derived.Test.YtinajjceojfflaaLT0
namespace Go.Proofs.Ytinajjceojfflaa.Kp
open Go.RowKit

set_option maxRecDepth 100000 in
set_option maxHeartbeats 3200000 in
theorem zdo7_calls (vals row : List Int) (vv rv : Value) (on key val : Int) (w : World) (hv : NS w vv vals) (hr : NS w rv row) (hn : row.length ≤ 10000000000) (hn2 : vals.length ≤ 10000000000) (hm : val ∈ row) (hin : ∀ x ∈ row, 0 ≤ x ∧ x < vals.length) :
    Calls Try.prog 45 #[.agg #[vv, rv], .agg #[.int .i64 on, .int .i64 7, .int .i64 key, .int .i64 val]] w (DoP w (vals) (row)) := by
  obtain ⟨i0, hi0, hz0, hz1, hz2⟩ := info_parts Try.infoInt
  obtain ⟨A, c, rfl⟩ := hv.form
  obtain ⟨A2, c2, rfl⟩ := hr.form
  obtain ⟨hM, hS, hW5⟩ := five_new w _ _ #[.int .i64 on, .int .i64 7, .int .i64 key, .int .i64 val] vals row hv hr
  have HC := Lib.hid (lineAt_calls row _ val _ hM.lz.rs (by omega))
  have HM := Lib.hid hM
  have HS := Lib.hid hS
  have HW5 := Lib.hid hW5
  clear hM hS hW5 hv hr
  obtain ⟨i, hi⟩ : ∃ i, i = row.idxOf val := ⟨_, rfl⟩
  have ef : findL row val = (i : Int) := by unfold findL; rw [if_pos hm, hi]
  have hil : i < row.length := by rw [hi]; exact List.idxOf_lt_length_iff.2 hm
  rw [ef] at HC
  clear hi ef hm
  go_enter Try.func45, Try.ntmps45
  go_wp2_with fail
  refine HC.out.mono ?_
  rintro e W ⟨rfl, hW⟩
  rw [hW] at HM HS HW5
  clear hW HC
  have s1 : W.cell? ⟨w.heap.size + 1, 1, none⟩ = some (.int .i64 7) := HS.out.cell 1
  have s2 : W.cell? ⟨w.heap.size + 1, 2, none⟩ = some (.int .i64 key) := HS.out.cell 2
  have s3 : W.cell? ⟨w.heap.size + 1, 3, none⟩ = some (.int .i64 val) := HS.out.cell 3
  have b0 : W.cell? ⟨w.heap.size, 0, none⟩ = some (.slice A vals.length c) := HM.out.lz.blk.cell 0
  have b1 : W.cell? ⟨w.heap.size, 1, none⟩ = some (.slice A2 row.length c2) := HM.out.lz.blk.cell 1
  have fb := HM.out.lz.blk.frozen
  have x2 : W.cell? ⟨w.heap.size + 1 + 1 + 1 + 1, 2, none⟩ = some (.slice none 0 0) := HM.out.x.cell 2
  have fx := HM.out.x.frozen
  have sl := HS.out.lt
  have bl := HM.out.lz.blk.lt
  obtain ⟨bq, oq, rfl, hc1, hc2, hbq, _⟩ := HM.out.lz.rs.at_ hil
  have hci : (c2 == i) = false := by rw [beq_eq_false_iff_ne]; omega
  have hci2 : (c2 = i) = False := eq_false (by omega)
  have hdr : ∀ wx, (∃ n, wx = W.drewN n) → Calls Try.prog 85 #[.slice A vals.length c, .slice (some ⟨bq, oq + i, none⟩) (row.length - i) (c2 - i)] wx fun e w6 => ∃ A3 c3, e = .returned (.slice A3 (row.length - i) c3) ∧ DoM w (.slice A vals.length c) (.slice (some ⟨bq, oq, none⟩) row.length c2) (.slice none 0 0) vals row w6 := by
    rintro wx ⟨n, rfl⟩
    have hMd := HM.out.below (Below.drewN W n)
    refine (lineRow_calls vals (row.drop i) _ _ _ hMd.lz.vs (hMd.lz.rs.drop (by omega)) (by rw [List.length_drop]; omega) (by omega) (fun x hx => hin x (List.mem_of_mem_drop hx))).mono ?_
    rintro e w6 ⟨v, zs, rfl, hz, o1, bb⟩
    obtain ⟨A3, c3, rfl⟩ := own_form o1
    rw [List.length_drop]
    exact ⟨A3, c3, rfl, hMd.below bb⟩
  have HDR := Lib.hid hdr
  clear hdr
  go_wp2_with fail
  go_region_with (go_at_call 85; refine (HDR.out _ ⟨1, rfl⟩).mono ?_; rintro e w6 ⟨A3, c3, rfl, hM6⟩; have d1 : w6.cell? ⟨w.heap.size + 1 + 1 + 1 + 1, 2, none⟩ = some (.slice none 0 0) := hM6.x.cell 2; have fd := hM6.x.frozen)
  all_goals
    have hM5 := hM6.setX (.slice A3 (row.length - i) c3)
    clear hM6 d1 fd
    obtain ⟨w5, hw5⟩ : ∃ w5, w5 = w6.setCell ⟨w.heap.size + 1 + 1 + 1 + 1, 2, none⟩ (.slice A3 (row.length - i) c3) := ⟨_, rfl⟩
    have HM5 := Lib.hid hM5
    rw [← hw5] at HM5
    clear hM5 s1 s2 s3 b0 b1 fb x2 fx sl bl
    go_upto_region 26 with (fail)
    rw [← hw5]
    clear hw5
    have b0 : w5.cell? ⟨w.heap.size, 0, none⟩ = some (.slice A vals.length c) := HM5.out.lz.blk.cell 0
    have b1 : w5.cell? ⟨w.heap.size, 1, none⟩ = some (.slice (some ⟨bq, oq, none⟩) row.length c2) := HM5.out.lz.blk.cell 1
    have x0 : w5.cell? ⟨w.heap.size + 1 + 1 + 1 + 1, 0, none⟩ = some (.int .i64 0) := HM5.out.x.cell 0
    have x1 : w5.cell? ⟨w.heap.size + 1 + 1 + 1 + 1, 1, none⟩ = some (.bool false) := HM5.out.x.cell 1
    have x2 : w5.cell? ⟨w.heap.size + 1 + 1 + 1 + 1, 2, none⟩ = some (.slice A3 (row.length - i) c3) := HM5.out.x.cell 2
    have x3 : w5.cell? ⟨w.heap.size + 1 + 1 + 1 + 1, 3, none⟩ = some (.slice none 0 0) := HM5.out.x.cell 3
    have y0 : w5.cell? ⟨w.heap.size + 1 + 1, 0, none⟩ = some (.slice none 0 0) := HM5.out.r1.cell 0
    have y1 : w5.cell? ⟨w.heap.size + 1 + 1, 1, none⟩ = some (.slice none 0 0) := HM5.out.r1.cell 1
    have z0 : w5.cell? ⟨w.heap.size + 1 + 1 + 1, 0, none⟩ = some (.int .i64 0) := HM5.out.r2.cell 0
    have z1 : w5.cell? ⟨w.heap.size + 1 + 1 + 1, 1, none⟩ = some (.bool false) := HM5.out.r2.cell 1
    have z2 : w5.cell? ⟨w.heap.size + 1 + 1 + 1, 2, none⟩ = some (.slice none 0 0) := HM5.out.r2.cell 2
    have z3 : w5.cell? ⟨w.heap.size + 1 + 1 + 1, 3, none⟩ = some (.slice none 0 0) := HM5.out.r2.cell 3
    have f1 := HM5.out.r1.frozen
    have f2 := HM5.out.r2.frozen
    have l1 := HM5.out.lz.blk.lt
    have l2 := HM5.out.x.lt
    go_region_with (fail)
    all_goals
      go_wp2_with fail
      refine bodyPost_ret (v := .tuple #[.agg #[.slice A vals.length c, .slice (some ⟨bq, oq, none⟩) row.length c2], .agg #[.int .i64 0, .bool false, .slice A3 (row.length - i) c3, .slice none 0 0]]) (by simp [results, Try.results45, go_sem, y0, y1, z0, z1, z2, z3]) rfl ?_
      with_reducible exact do_fin9 (by simp) (by simp) HM5.out
set_option maxRecDepth 100000 in
set_option maxHeartbeats 3200000 in
theorem zdo8_calls (vals row : List Int) (vv rv : Value) (on key val : Int) (w : World) (hv : NS w vv vals) (hr : NS w rv row) (hn : row.length ≤ 10000000000) (hn2 : vals.length ≤ 10000000000) (hm : val ∈ row) (hin : ∀ x ∈ row, 0 ≤ x ∧ x < vals.length) :
    Calls Try.prog 45 #[.agg #[vv, rv], .agg #[.int .i64 on, .int .i64 8, .int .i64 key, .int .i64 val]] w (DoP w (vals) (row)) := by
  obtain ⟨i0, hi0, hz0, hz1, hz2⟩ := info_parts Try.infoInt
  obtain ⟨A, c, rfl⟩ := hv.form
  obtain ⟨A2, c2, rfl⟩ := hr.form
  obtain ⟨hM, hS, hW5⟩ := five_new w _ _ #[.int .i64 on, .int .i64 8, .int .i64 key, .int .i64 val] vals row hv hr
  have HC := Lib.hid (lineAt_calls row _ val _ hM.lz.rs (by omega))
  have HM := Lib.hid hM
  have HS := Lib.hid hS
  have HW5 := Lib.hid hW5
  clear hM hS hW5 hv hr
  obtain ⟨i, hi⟩ : ∃ i, i = row.idxOf val := ⟨_, rfl⟩
  have ef : findL row val = (i : Int) := by unfold findL; rw [if_pos hm, hi]
  have hil : i < row.length := by rw [hi]; exact List.idxOf_lt_length_iff.2 hm
  rw [ef] at HC
  clear hi ef hm
  go_enter Try.func45, Try.ntmps45
  go_wp2_with fail
  refine HC.out.mono ?_
  rintro e W ⟨rfl, hW⟩
  rw [hW] at HM HS HW5
  clear hW HC
  have s1 : W.cell? ⟨w.heap.size + 1, 1, none⟩ = some (.int .i64 8) := HS.out.cell 1
  have s2 : W.cell? ⟨w.heap.size + 1, 2, none⟩ = some (.int .i64 key) := HS.out.cell 2
  have s3 : W.cell? ⟨w.heap.size + 1, 3, none⟩ = some (.int .i64 val) := HS.out.cell 3
  have b0 : W.cell? ⟨w.heap.size, 0, none⟩ = some (.slice A vals.length c) := HM.out.lz.blk.cell 0
  have b1 : W.cell? ⟨w.heap.size, 1, none⟩ = some (.slice A2 row.length c2) := HM.out.lz.blk.cell 1
  have fb := HM.out.lz.blk.frozen
  have x2 : W.cell? ⟨w.heap.size + 1 + 1 + 1 + 1, 2, none⟩ = some (.slice none 0 0) := HM.out.x.cell 2
  have fx := HM.out.x.frozen
  have sl := HS.out.lt
  have bl := HM.out.lz.blk.lt
  obtain ⟨bq, oq, rfl, hc1, hc2, hbq, _⟩ := HM.out.lz.rs.at_ hil
  have ew : IntKind.i64.wrap ((i : Int) + 1) = ((i + 1 : Nat) : Int) := by rw [show ((i + 1 : Nat) : Int) = (i : Int) + 1 by omega]; exact IntWalk.i64_in _ (by omega)
  have hdr : ∀ wx, (∃ n, wx = W.drewN n) → Calls Try.prog 85 #[.slice A vals.length c, .slice (some ⟨bq, oq, none⟩) (i + 1) c2] wx fun e w7 => ∃ A4 c4, e = .returned (.slice A4 (i + 1) c4) ∧ DoM w (.slice A vals.length c) (.slice (some ⟨bq, oq, none⟩) row.length c2) (.slice none 0 0) vals row w7 ∧ ∃ zs : List Int, zs.length = i + 1 ∧ NS w7 (.slice A4 (i + 1) c4) zs := by
    rintro wx ⟨n, rfl⟩
    have hMd := HM.out.below (Below.drewN W n)
    have hlt : (row.take (i + 1)).length = i + 1 := by rw [List.length_take]; omega
    refine (lineRow_calls vals (row.take (i + 1)) _ _ _ hMd.lz.vs (hMd.lz.rs.take (i := i + 1) (by omega)) (by omega) (by omega) (fun x hx => hin x (List.mem_of_mem_take hx))).mono ?_
    rintro e w6 ⟨v, zs, rfl, hz, o1, bb⟩
    rw [hlt] at hz o1
    have hN := own_NS hz o1
    obtain ⟨A3, c3, rfl⟩ := own_form o1
    exact ⟨A3, c3, rfl, hMd.below bb, zs, hz, hN⟩
  have HDR := Lib.hid hdr
  clear hdr
  have hdt : ∀ (w7 : World) A4 c4, DoM w (.slice A vals.length c) (.slice (some ⟨bq, oq, none⟩) row.length c2) (.slice none 0 0) vals row w7 → (∃ zs : List Int, zs.length = i + 1 ∧ NS w7 (.slice A4 (i + 1) c4) zs) → Calls Try.prog 86 #[.slice A4 (i + 1) c4] w7 fun e w6 => ∃ A3 c3, e = .returned (.slice A3 (i + 1) c3) ∧ DoM w (.slice A vals.length c) (.slice (some ⟨bq, oq, none⟩) row.length c2) (.slice none 0 0) vals row w6 := by
    rintro w7 A4 c4 hM7 ⟨zs, hz, hN⟩
    refine (lineTurned_calls zs _ w7 hN (by omega)).mono ?_
    rintro e w6 ⟨v, zs2, rfl, hz2', o1, bb⟩
    rw [hz] at o1
    obtain ⟨A3, c3, rfl⟩ := own_form o1
    exact ⟨A3, c3, rfl, hM7.below bb⟩
  have HDT := Lib.hid hdt
  clear hdt
  go_wp2_with fail
  go_region_with (first
    | (go_at_call 85; refine (HDR.out _ ⟨1, rfl⟩).mono ?_; rintro e w7 ⟨A4, c4, rfl, hM7, hz7⟩; have HM7 := Lib.hid (And.intro hM7 hz7); clear hM7 hz7)
    | (go_at_call 86; refine (HDT.out _ _ _ HM7.out.1 HM7.out.2).mono ?_; rintro e w6 ⟨A3, c3, rfl, hM6⟩; have d1 : w6.cell? ⟨w.heap.size + 1 + 1 + 1 + 1, 2, none⟩ = some (.slice none 0 0) := hM6.x.cell 2; have fd := hM6.x.frozen))
  all_goals
    have hM5 := hM6.setX (.slice A3 (i + 1) c3)
    clear hM6 d1 fd
    obtain ⟨w5, hw5⟩ : ∃ w5, w5 = w6.setCell ⟨w.heap.size + 1 + 1 + 1 + 1, 2, none⟩ (.slice A3 (i + 1) c3) := ⟨_, rfl⟩
    have HM5 := Lib.hid hM5
    rw [← hw5] at HM5
    clear hM5 s1 s2 s3 b0 b1 fb x2 fx sl bl
    go_upto_region 26 with (fail)
    rw [← hw5]
    clear hw5
    have b0 : w5.cell? ⟨w.heap.size, 0, none⟩ = some (.slice A vals.length c) := HM5.out.lz.blk.cell 0
    have b1 : w5.cell? ⟨w.heap.size, 1, none⟩ = some (.slice (some ⟨bq, oq, none⟩) row.length c2) := HM5.out.lz.blk.cell 1
    have x0 : w5.cell? ⟨w.heap.size + 1 + 1 + 1 + 1, 0, none⟩ = some (.int .i64 0) := HM5.out.x.cell 0
    have x1 : w5.cell? ⟨w.heap.size + 1 + 1 + 1 + 1, 1, none⟩ = some (.bool false) := HM5.out.x.cell 1
    have x2 : w5.cell? ⟨w.heap.size + 1 + 1 + 1 + 1, 2, none⟩ = some (.slice A3 (i + 1) c3) := HM5.out.x.cell 2
    have x3 : w5.cell? ⟨w.heap.size + 1 + 1 + 1 + 1, 3, none⟩ = some (.slice none 0 0) := HM5.out.x.cell 3
    have y0 : w5.cell? ⟨w.heap.size + 1 + 1, 0, none⟩ = some (.slice none 0 0) := HM5.out.r1.cell 0
    have y1 : w5.cell? ⟨w.heap.size + 1 + 1, 1, none⟩ = some (.slice none 0 0) := HM5.out.r1.cell 1
    have z0 : w5.cell? ⟨w.heap.size + 1 + 1 + 1, 0, none⟩ = some (.int .i64 0) := HM5.out.r2.cell 0
    have z1 : w5.cell? ⟨w.heap.size + 1 + 1 + 1, 1, none⟩ = some (.bool false) := HM5.out.r2.cell 1
    have z2 : w5.cell? ⟨w.heap.size + 1 + 1 + 1, 2, none⟩ = some (.slice none 0 0) := HM5.out.r2.cell 2
    have z3 : w5.cell? ⟨w.heap.size + 1 + 1 + 1, 3, none⟩ = some (.slice none 0 0) := HM5.out.r2.cell 3
    have f1 := HM5.out.r1.frozen
    have f2 := HM5.out.r2.frozen
    have l1 := HM5.out.lz.blk.lt
    have l2 := HM5.out.x.lt
    go_region_with (fail)
    all_goals
      go_wp2_with fail
      refine bodyPost_ret (v := .tuple #[.agg #[.slice A vals.length c, .slice (some ⟨bq, oq, none⟩) row.length c2], .agg #[.int .i64 0, .bool false, .slice A3 (i + 1) c3, .slice none 0 0]]) (by simp [results, Try.results45, go_sem, y0, y1, z0, z1, z2, z3]) rfl ?_
      with_reducible exact do_fin9 (by simp) (by simp) HM5.out
end Go.Proofs.Ytinajjceojfflaa.Kp
