/- Line.Do: its cases 0. -/
import Derived.Test.YtinajjceojfflaaLT0
import Derived.Deep.RegionHeld3
namespace Go.Proofs.Ytinajjceojfflaa.Kp
open Go.RowKit

set_option maxRecDepth 100000 in
set_option maxHeartbeats 64000000 in
theorem zdo0_calls (vals row : List Int) (vv rv : Value) (on key val : Int) (w : World) (hv : NS w vv vals) (hr : NS w rv row) (hn : row.length ≤ 10000000000) (hn2 : vals.length ≤ 10000000000) :
    Calls Try.prog 45 #[.agg #[vv, rv], .agg #[.int .i64 on, .int .i64 0, .int .i64 key, .int .i64 val]] w (DoP w (vals ++ [key]) (row ++ [(vals.length : Int)])) := by
  obtain ⟨i0, hi0, hz0, hz1, hz2⟩ := info_parts Try.infoInt
  obtain ⟨A, c, rfl⟩ := hv.form
  obtain ⟨A2, c2, rfl⟩ := hr.form
  obtain ⟨hM, hS, hW5⟩ := five_new w _ _ #[.int .i64 on, .int .i64 0, .int .i64 key, .int .i64 val] vals row hv hr
  have HC := Lib.hid (lineAt_calls row _ val _ hM.lz.rs (by omega))
  have HM := Lib.hid hM
  have HS := Lib.hid hS
  have HW5 := Lib.hid hW5
  clear hM hS hW5 hv hr
  go_enter Try.func45, Try.ntmps45
  go_wp2_with fail
  refine HC.out.mono ?_
  rintro e W ⟨rfl, hW⟩
  rw [hW] at HM HS HW5
  clear hW HC
  have s1 : W.cell? ⟨w.heap.size + 1, 1, none⟩ = some (.int .i64 0) := HS.out.cell 1
  have s2 : W.cell? ⟨w.heap.size + 1, 2, none⟩ = some (.int .i64 key) := HS.out.cell 2
  have s3 : W.cell? ⟨w.heap.size + 1, 3, none⟩ = some (.int .i64 val) := HS.out.cell 3
  have b0 : W.cell? ⟨w.heap.size, 0, none⟩ = some (.slice A vals.length c) := HM.out.lz.blk.cell 0
  have b1 : W.cell? ⟨w.heap.size, 1, none⟩ = some (.slice A2 row.length c2) := HM.out.lz.blk.cell 1
  have fb := HM.out.lz.blk.frozen
  have x2 : W.cell? ⟨w.heap.size + 1 + 1 + 1 + 1, 2, none⟩ = some (.slice none 0 0) := HM.out.x.cell 2
  have fx := HM.out.x.frozen
  have sl := HS.out.lt
  have bl := HM.out.lz.blk.lt
  have hI := HM.out.lz.vs.toIntS
  have pa := (Cp1.first hI).drew
  have pc := ((Cp1.first hI).alloc (Obj.cells #[Value.int .i64 key] 3)).drew
  have pb := (Cp1.second hI (Obj.cells #[Value.int .i64 key] 3)).drew
  clear hI
  have HLN := Lib.hid (show (row ++ [(vals.length : Int)]).length = row.length + 1 by simp)
  go_upto_block 0 with (fail)
  go_cut [] (fun wx => DoC w (vals ++ [key]) (row ++ [(vals.length : Int)]) wx)
  case first =>
    go_wp2_with fail
    go_region_held3 (fun w' => w'.cell? ⟨w.heap.size + 1, 2, none⟩ = some (.int .i64 key) ∧ w.heap.size + 1 < w'.heap.size)
      (first
        | (go_keep; done)
        | (refine ⟨by simp [*, World.cell?_alloc_some, World.cell?_setCell_far], ?_⟩; first | (simp; omega) | (simp [World.setCell]; omega) | (simp [World.drew]; omega) | (simp [World.drew, World.alloc]; omega))
        | exact ⟨s2', sl'⟩
        | exact ⟨(World.cell?_alloc_some _ _ _ (by rw [s2']; rfl)).trans s2', by simp; omega⟩
        | exact ⟨(World.cell?_setCell_far _ _ _ _ (by simp)).trans ((World.cell?_setCell_far _ _ _ _ (by simp)).trans s2_3), by simp [World.setCell]; exact sl_3⟩
        | exact ⟨s2'', sl''⟩
        | exact ⟨s2_3, sl_3⟩)
      (first
      | (refine step_append_into rfl (.tmp 21) (.tmp 23) 22 rfl W.heap.size 3 i0 _ 8 Try.underlying22 hi0 hz0 hz1 hz2 rfl _ 0 0 [] (by rfl) (by with_reducible first | exact pa.own | exact pb.own | exact pc.own) (.slice A vals.length c) vals (by rfl) (by with_reducible first | exact pa.b | exact pb.b | exact pc.b) (by unfold maxLen; omega) (by omega) (by with_reducible first | exact pa.bel.size | exact pb.bel.size | exact pc.bel.size) _ (by rfl) ?_; intro gg cap w1 hown1 hgrow hat hlt1
         obtain ⟨r1, rm⟩ := Cp1.next (by with_reducible first | exact pa | exact pb | exact pc) hown1 hgrow
         have hM1 := HM.out.below r1.bel
         have s2' := (r1.bel.cell (p := ⟨w.heap.size + 1, 2, none⟩) sl).trans s2
         have b0' : w1.cell? ⟨w.heap.size, 0, none⟩ = some (.slice A vals.length c) := hM1.lz.blk.cell 0
         have b1' : w1.cell? ⟨w.heap.size, 1, none⟩ = some (.slice A2 row.length c2) := hM1.lz.blk.cell 1
         have bl' := hM1.lz.blk.lt
         have sl' : w.heap.size + 1 < w1.heap.size := Nat.lt_of_lt_of_le sl r1.bel.size
         clear hown1 hgrow hat hlt1 hM1
         simp only [Nat.zero_add])
      | (refine step_append_lies _ rfl (.tmp 24) (.tmp 27) 22 rfl W.heap.size 3 i0 _ 1 8 Try.underlying22 hi0 hz0 hz1 hz2 rfl (by omega) (.slice (some ⟨gg, 0, none⟩) vals.length cap) vals.length (vals.map i64v) (by rfl) (by with_reducible first | exact r1.own | exact (r1.alloc _).own) _ 1 1 [.int .i64 key] (by rfl) (by rfl) (news1 (by first | (simp; done) | (refine rm _ _ (by simp) ?_; simp))) (fun _ h => by rw [List.mem_singleton.1 h]; rfl) (by omega) (by unfold maxLen; omega) (by omega) (by with_reducible first | exact r1.le | exact (r1.alloc _).le) _ (by rfl) ?_; intro gv capv w2 hown2 hgrow2 hatv hlt2
         have r2 := Cp2.next (by with_reducible first | exact r1 | exact r1.alloc _) hown2 hgrow2
         have hM2 := HM.out.below r2.bel
         have hN2 : NS w2 (.slice (some ⟨gv, 0, none⟩) (vals.length + 1) capv) (vals ++ [key]) := own_NS (n := vals.length + 1) (by simp) (by rw [List.map_append]; exact hown2)
         have b0'' : w2.cell? ⟨w.heap.size, 0, none⟩ = some (.slice A vals.length c) := hM2.lz.blk.cell 0
         have b1'' : w2.cell? ⟨w.heap.size, 1, none⟩ = some (.slice A2 row.length c2) := hM2.lz.blk.cell 1
         have fb'' := hM2.lz.blk.frozen
         have bl'' := hM2.lz.blk.lt
         have s2'' := (r2.bel.cell (p := ⟨w.heap.size + 1, 2, none⟩) sl).trans s2
         have sl'' : w.heap.size + 1 < w2.heap.size := Nat.lt_of_lt_of_le sl r2.bel.size
         have HM2 := Lib.hid (And.intro hM2 hN2)
         clear hown2 hgrow2 hatv hlt2 hM2 hN2)
      | (refine step_call rfl 83 #[.int .i64 (vals.length : Int), .pointer (some ⟨w.heap.size, 0, none⟩)] (by go_simp) ((back_calls _ _ _ vals row (vals.length : Int) w2 HM2.out.1.lz (by omega)).mono ?_); rintro e w3 ⟨v3, rfl, o3, bb3⟩; refine ⟨_, rfl, ?_⟩
         have hN3 := own_NS rfl o3
         obtain ⟨A3, c3, e3⟩ := own_form o3
         rw [HLN.out] at e3
         subst e3
         have hM3 := HM2.out.1.below bb3
         have hV3 := HM2.out.2.below bb3
         have b0_3 : w3.cell? ⟨w.heap.size, 0, none⟩ = some (.slice A vals.length c) := hM3.lz.blk.cell 0
         have b1_3 : w3.cell? ⟨w.heap.size, 1, none⟩ = some (.slice A2 row.length c2) := hM3.lz.blk.cell 1
         have fb_3 := hM3.lz.blk.frozen
         have bl_3 := hM3.lz.blk.lt
         have s2_3 := (bb3.cell (p := ⟨w.heap.size + 1, 2, none⟩) sl'').trans s2''
         have sl_3 : w.heap.size + 1 < w3.heap.size := Nat.lt_of_lt_of_le sl'' bb3.size
         have HM3 := Lib.hid (And.intro hM3 (And.intro hV3 hN3))
         clear o3 bb3 hN3 hM3 hV3))
    all_goals
      have hM4 := HM3.out.1.set 0 (.slice (some ⟨gv, 0, none⟩) (vals.length + 1) capv) rfl HM3.out.2.1 HM3.out.1.lz.rs
      have hM5 := Lib.hid (hM4.set 1 (.slice A3 (row.length + 1) c3) rfl hM4.lz.vs (HM3.out.2.2.keep (KeepI.set HM3.out.1.lz.blk (by decide) _)))
      clear hM4 r1 r2 rm pa pb pc s2' b0' b1' bl' sl' b0'' b1'' fb'' bl''
      go_wp2_with fail
      go_meet
      exact ⟨_, _, _, _, _, _, by simp, HLN.out, hM5.out⟩
  case rest =>
    clear s1 s2 s3 b0 b1 fb x2 fx sl bl pa pb pc
    obtain ⟨A3, n3, c3, A4, n4, c4, e3, e4, hM5⟩ := hcut
    have HM5 := Lib.hid (And.intro e3 (And.intro e4 hM5))
    clear e3 e4 hM5
    go_upto_region 26 with (fail)
    have b0 : wc.cell? ⟨w.heap.size, 0, none⟩ = some (.slice A3 n3 c3) := HM5.out.2.2.lz.blk.cell 0
    have b1 : wc.cell? ⟨w.heap.size, 1, none⟩ = some (.slice A4 n4 c4) := HM5.out.2.2.lz.blk.cell 1
    have x0 : wc.cell? ⟨w.heap.size + 1 + 1 + 1 + 1, 0, none⟩ = some (.int .i64 0) := HM5.out.2.2.x.cell 0
    have x1 : wc.cell? ⟨w.heap.size + 1 + 1 + 1 + 1, 1, none⟩ = some (.bool false) := HM5.out.2.2.x.cell 1
    have x2 : wc.cell? ⟨w.heap.size + 1 + 1 + 1 + 1, 2, none⟩ = some (.slice none 0 0) := HM5.out.2.2.x.cell 2
    have x3 : wc.cell? ⟨w.heap.size + 1 + 1 + 1 + 1, 3, none⟩ = some (.slice none 0 0) := HM5.out.2.2.x.cell 3
    have y0 : wc.cell? ⟨w.heap.size + 1 + 1, 0, none⟩ = some (.slice none 0 0) := HM5.out.2.2.r1.cell 0
    have y1 : wc.cell? ⟨w.heap.size + 1 + 1, 1, none⟩ = some (.slice none 0 0) := HM5.out.2.2.r1.cell 1
    have z0 : wc.cell? ⟨w.heap.size + 1 + 1 + 1, 0, none⟩ = some (.int .i64 0) := HM5.out.2.2.r2.cell 0
    have z1 : wc.cell? ⟨w.heap.size + 1 + 1 + 1, 1, none⟩ = some (.bool false) := HM5.out.2.2.r2.cell 1
    have z2 : wc.cell? ⟨w.heap.size + 1 + 1 + 1, 2, none⟩ = some (.slice none 0 0) := HM5.out.2.2.r2.cell 2
    have z3 : wc.cell? ⟨w.heap.size + 1 + 1 + 1, 3, none⟩ = some (.slice none 0 0) := HM5.out.2.2.r2.cell 3
    have f1 := HM5.out.2.2.r1.frozen
    have f2 := HM5.out.2.2.r2.frozen
    have l1 := HM5.out.2.2.lz.blk.lt
    have l2 := HM5.out.2.2.x.lt
    go_region_with (fail)
    all_goals
      go_wp2_with fail
      refine bodyPost_ret (v := .tuple #[.agg #[.slice A3 n3 c3, .slice A4 n4 c4], .agg #[.int .i64 0, .bool false, .slice none 0 0, .slice none 0 0]]) (by simp [results, Try.results45, go_sem, y0, y1, z0, z1, z2, z3]) rfl ?_
      with_reducible exact do_fin9 HM5.out.1 HM5.out.2.1 HM5.out.2.2
end Go.Proofs.Ytinajjceojfflaa.Kp
