/- Line.Do: its cases 0. -/
import Derived.Test.YtinajjceojfflaaLT0
import Derived.Test.YtinajjceojfflaaReg2
namespace Go.Proofs.Ytinajjceojfflaa.Kp
open Go.RowKit

set_option maxRecDepth 100000 in
set_option maxHeartbeats 64000000 in
theorem zdo0_calls (vals row : List Int) (vv rv : Value) (on key val : Int) (w : World) (hv : NS w vv vals) (hr : NS w rv row) (hn : row.length ≤ 10000000000) (hn2 : vals.length ≤ 10000000000) :
    Calls Try.prog 45 #[.agg #[vv, rv], .agg #[.int .i64 on, .int .i64 0, .int .i64 key, .int .i64 val]] w (DoP w (vals ++ [key]) (row ++ [(vals.length : Int)])) := by
  obtain ⟨i0, hi0, hz0, hz1, hz2⟩ := info_parts Try.infoInt
  obtain ⟨A, c, rfl⟩ := hv.form
  obtain ⟨A2, c2, rfl⟩ := hr.form
  obtain ⟨hM, hS, hW5⟩ := five_new w _ _ #[.int .i64 on, .int .i64 0, .int .i64 key, .int .i64 val] vals row hv hr
  have HC := Lib.hid (lineAt_calls row _ val _ hM.lz.rs (by omega))
  have HM := Lib.hid hM
  have HS := Lib.hid hS
  have HW5 := Lib.hid hW5
  clear hM hS hW5 hv hr
  go_enter Try.func45, Try.ntmps45
  go_wp2_with fail
  refine HC.out.mono ?_
  rintro e W ⟨rfl, hW⟩
  rw [hW] at HM HS HW5
  clear hW HC
  have s1 : W.cell? ⟨w.heap.size + 1, 1, none⟩ = some (.int .i64 0) := HS.out.cell 1
  have s2 : W.cell? ⟨w.heap.size + 1, 2, none⟩ = some (.int .i64 key) := HS.out.cell 2
  have s3 : W.cell? ⟨w.heap.size + 1, 3, none⟩ = some (.int .i64 val) := HS.out.cell 3
  have b0 : W.cell? ⟨w.heap.size, 0, none⟩ = some (.slice A vals.length c) := HM.out.lz.blk.cell 0
  have b1 : W.cell? ⟨w.heap.size, 1, none⟩ = some (.slice A2 row.length c2) := HM.out.lz.blk.cell 1
  have fb := HM.out.lz.blk.frozen
  have x2 : W.cell? ⟨w.heap.size + 1 + 1 + 1 + 1, 2, none⟩ = some (.slice none 0 0) := HM.out.x.cell 2
  have fx := HM.out.x.frozen
  have sl := HS.out.lt
  have bl := HM.out.lz.blk.lt
  have hI := HM.out.lz.vs.toIntS
  have pa := (Cp1.first hI).drew
  have pc := ((Cp1.first hI).alloc (Obj.cells #[Value.int .i64 key] 3)).drew
  have pb := (Cp1.second hI (Obj.cells #[Value.int .i64 key] 3)).drew
  clear hI
  have HLN := Lib.hid (show (row ++ [(vals.length : Int)]).length = row.length + 1 by simp)
  go_upto_block 0 with (fail)
  go_cut [] (fun wx => DoC w (vals ++ [key]) (row ++ [(vals.length : Int)]) wx)
  case first =>
    go_wp2_with fail
    refine wp_region_G (fun w' => w'.cell? ⟨w.heap.size, 0, none⟩ = some (.slice A vals.length c) ∧ w'.cell? ⟨w.heap.size + 1, 2, none⟩ = some (.int .i64 key)) (fun i => i == 14) (by kernel_rfl) ?_
    have hS0 : (fun w' => w'.cell? ⟨w.heap.size, 0, none⟩ = some (.slice A vals.length c) ∧ w'.cell? ⟨w.heap.size + 1, 2, none⟩ = some (.int .i64 key)) W.drew := ⟨b0, s2⟩
    refine wpAnyG_take (i := 1) (v := ?_) rfl rfl (by kernel_rfl) (by kernel_rfl) (by kernel_rfl) (by kernel_rfl) (fun _ _ _ h => h) (by rfl) ?_ hS0 ?_
    rotate_left 1
    · intro w' hSw; (try dsimp only at hSw); go_simp; (try with_reducible rfl)
    simp only [Act.put, List.setIfInBounds_toArray, List.set_cons_zero, List.set_cons_succ]
    refine wpAnyG_take (i := 2) (v := ?_) rfl rfl (by kernel_rfl) (by kernel_rfl) (by kernel_rfl) (by kernel_rfl) (fun _ _ _ h => h) (by rfl) ?_ hS0 ?_
    rotate_left 1
    · intro w' hSw; (try dsimp only at hSw); go_simp; (try with_reducible rfl)
    simp only [Act.put, List.setIfInBounds_toArray, List.set_cons_zero, List.set_cons_succ]
    refine wpAnyG_take (i := 4) (v := ?_) rfl rfl (by kernel_rfl) (by kernel_rfl) (by kernel_rfl) (by kernel_rfl) (fun _ _ _ h => h) (by rfl) ?_ hS0 ?_
    rotate_left 1
    · intro w' hSw; (try dsimp only at hSw); go_simp; (try with_reducible rfl)
    simp only [Act.put, List.setIfInBounds_toArray, List.set_cons_zero, List.set_cons_succ]
    refine wpAnyG_take (i := 5) (v := ?_) rfl rfl (by kernel_rfl) (by kernel_rfl) (by kernel_rfl) (by kernel_rfl) (fun _ _ _ h => h) (by rfl) ?_ hS0 ?_
    rotate_left 1
    · intro w' hSw; (try dsimp only at hSw); go_simp; (try with_reducible rfl)
    simp only [Act.put, List.setIfInBounds_toArray, List.set_cons_zero, List.set_cons_succ]
    refine wpAnyG_take (i := 8) (v := ?_) rfl rfl (by kernel_rfl) (by kernel_rfl) (by kernel_rfl) (by kernel_rfl) (fun _ _ _ h => h) (by rfl) ?_ hS0 ?_
    rotate_left 1
    · intro w' hSw; (try dsimp only at hSw); go_simp; (try with_reducible rfl)
    simp only [Act.put, List.setIfInBounds_toArray, List.set_cons_zero, List.set_cons_succ]
    refine wpAnyG_take (i := 9) (v := ?_) rfl rfl (by kernel_rfl) (by kernel_rfl) (by kernel_rfl) (by kernel_rfl) (fun _ _ _ h => h) (by rfl) ?_ hS0 ?_
    rotate_left 1
    · intro w' hSw; (try dsimp only at hSw); go_simp; (try with_reducible rfl)
    simp only [Act.put, List.setIfInBounds_toArray, List.set_cons_zero, List.set_cons_succ]
    refine wpAnyG_take (i := 10) (v := ?_) rfl rfl (by kernel_rfl) (by kernel_rfl) (by kernel_rfl) (by kernel_rfl) (fun _ _ _ h => h) (by rfl) ?_ hS0 ?_
    rotate_left 1
    · intro w' hSw; (try dsimp only at hSw); go_simp; (try with_reducible rfl)
    simp only [Act.put, List.setIfInBounds_toArray, List.set_cons_zero, List.set_cons_succ]
    refine wpAnyG_take (i := 11) (v := ?_) rfl rfl (by kernel_rfl) (by kernel_rfl) (by kernel_rfl) (by kernel_rfl) (fun _ _ _ h => h) (by rfl) ?_ hS0 ?_
    rotate_left 1
    · intro w' hSw; (try dsimp only at hSw); go_simp; (try with_reducible rfl)
    simp only [Act.put, List.setIfInBounds_toArray, List.set_cons_zero, List.set_cons_succ]
    refine wpAnyG_ready (rs := [0, 6]) (by kernel_rfl) (by simp) (AllReadyG.cons rfl (fun K0 hK0 => ?_) (AllReadyG.cons rfl (fun K6 hK6 => ?_) AllReadyG.nil))
    · go_simp
      refine hK0.out _ _ (fun _ => by constructor <;> go_keep) ?_
      refine wpAnyG_ready (rs := [3, 6]) (by kernel_rfl) (by simp) (AllReadyG.cons rfl (fun K3 hK3 => ?_) (AllReadyG.cons rfl (fun K7 hK7 => ?_) AllReadyG.nil))
      · refine step_append_into rfl (.tmp 21) (.tmp 23) 22 rfl W.heap.size 3 i0 _ 8 Try.underlying22 hi0 hz0 hz1 hz2 rfl _ 0 0 [] (by rfl) (by with_reducible exact pa.own) (.slice A vals.length c) vals (by rfl) (by with_reducible exact pa.b) (by unfold maxLen; omega) (by omega) (by with_reducible exact pa.bel.size) _ (by rfl) ?_
        intro gg cap w1 hown1 hgrow hat hlt1
        obtain ⟨r1, rm⟩ := Cp1.next (by with_reducible exact pa) hown1 hgrow
        have hM1 := HM.out.below r1.bel
        have s2' := (r1.bel.cell (p := ⟨w.heap.size + 1, 2, none⟩) sl).trans s2
        have b0' : w1.cell? ⟨w.heap.size, 0, none⟩ = some (.slice A vals.length c) := hM1.lz.blk.cell 0
        have bl' := hM1.lz.blk.lt
        have sl' : w.heap.size + 1 < w1.heap.size := Nat.lt_of_lt_of_le sl r1.bel.size
        clear hown1 hgrow hat hlt1 hM1
        refine hK3.out _ _ (fun _ => ⟨b0', s2'⟩) ?_
        simp only [Act.put, List.getElem_toArray, List.getElem_cons_succ, List.getElem_cons_zero, List.setIfInBounds_toArray, List.set_cons_zero, List.set_cons_succ]
        refine wpAnyG_ready (rs := [6]) (by kernel_rfl) (by simp) (AllReadyG.cons rfl (fun K1 hK1 => ?_) AllReadyG.nil)
        go_simp
        refine hK1.out _ _ (fun _ => by constructor <;> go_keep) ?_
        try simp only [Nat.zero_add, Act.put, List.getElem_toArray, List.getElem_cons_succ, List.getElem_cons_zero, List.setIfInBounds_toArray, List.set_cons_zero, List.set_cons_succ]
        refine wpAnyG_ready (rs := [7]) (by kernel_rfl) (by simp) (AllReadyG.cons rfl (fun K2 hK2 => ?_) AllReadyG.nil)
        refine step_append_lies _ rfl (.tmp 24) (.tmp 27) 22 rfl W.heap.size 3 i0 _ 1 8 Try.underlying22 hi0 hz0 hz1 hz2 rfl (by omega) (.slice (some ⟨gg, 0, none⟩) vals.length cap) vals.length (vals.map i64v) (by rfl) (by with_reducible exact (r1.alloc _).own) _ 1 1 [.int .i64 key] (by rfl) (by rfl) (news1 (by simp)) (fun _ h => by rw [List.mem_singleton.1 h]; rfl) (by omega) (by unfold maxLen; omega) (by omega) (by with_reducible exact (r1.alloc _).le) _ (by rfl) ?_
        intro gv capv w2 hown2 hgrow2 hatv hlt2
        have r2 := Cp2.next (by with_reducible exact (r1.alloc _)) hown2 hgrow2
        have hM2 := HM.out.below r2.bel
        have hN2 : NS w2 (.slice (some ⟨gv, 0, none⟩) (vals.length + 1) capv) (vals ++ [key]) := own_NS (n := vals.length + 1) (by simp) (by rw [List.map_append]; exact hown2)
        have s2'' := (r2.bel.cell (p := ⟨w.heap.size + 1, 2, none⟩) sl).trans s2
        have b0'' : w2.cell? ⟨w.heap.size, 0, none⟩ = some (.slice A vals.length c) := hM2.lz.blk.cell 0
        have sl'' : w.heap.size + 1 < w2.heap.size := Nat.lt_of_lt_of_le sl r2.bel.size
        have HM2 := Lib.hid (And.intro hM2 hN2)
        clear hown2 hgrow2 hatv hlt2 hM2 hN2
        refine hK2.out _ _ (fun _ => ⟨b0'', s2''⟩) ?_
        try simp only [Nat.zero_add, Act.put, List.getElem_toArray, List.getElem_cons_succ, List.getElem_cons_zero, List.setIfInBounds_toArray, List.set_cons_zero, List.set_cons_succ]
        refine wpAnyG_ready (rs := [12]) (by kernel_rfl) (by simp) (AllReadyG.cons rfl (fun K3 hK3 => ?_) AllReadyG.nil)
        refine step_call rfl 83 #[.int .i64 (vals.length : Int), .pointer (some ⟨w.heap.size, 0, none⟩)] (by go_simp) ((back_calls _ _ _ vals row (vals.length : Int) w2 HM2.out.1.lz (by omega)).mono ?_)
        rintro e w3 ⟨v3, rfl, o3, bb3⟩
        refine ⟨_, rfl, ?_⟩
        have hN3 := own_NS rfl o3
        obtain ⟨A3, c3, e3⟩ := own_form o3
        rw [HLN.out] at e3
        subst e3
        have hM3 := HM2.out.1.below bb3
        have hV3 := HM2.out.2.below bb3
        have b0_3 : w3.cell? ⟨w.heap.size, 0, none⟩ = some (.slice A vals.length c) := hM3.lz.blk.cell 0
        have b1_3 : w3.cell? ⟨w.heap.size, 1, none⟩ = some (.slice A2 row.length c2) := hM3.lz.blk.cell 1
        have s2_3 := (bb3.cell (p := ⟨w.heap.size + 1, 2, none⟩) sl'').trans s2''
        have fb_3 := hM3.lz.blk.frozen
        have bl_3 := hM3.lz.blk.lt
        have HM3 := Lib.hid (And.intro hM3 (And.intro hV3 hN3))
        clear o3 bb3 hN3 hM3 hV3
        simp only [Act.put, List.setIfInBounds_toArray, List.set_cons_zero, List.set_cons_succ]
        refine hK3.out _ _ (fun _ => ⟨b0_3, s2_3⟩) ?_
        refine wpAnyG_ready (rs := [13]) (by kernel_rfl) (by simp) (AllReadyG.cons rfl (fun K4 hK4 => ?_) AllReadyG.nil)
        go_simp
        refine hK4.out _ _ (fun _ => ⟨b0_3, s2_3⟩) ?_
        refine wpAnyG_ready (rs := [14]) (by kernel_rfl) (by simp) (AllReadyG.cons rfl (fun K5 hK5 => ?_) AllReadyG.nil)
        go_simp
        refine hK5.out _ _ (fun h => by cases h) ?_
        refine wpAnyG_done (by kernel_rfl) ?_ _
        have hM4 := HM3.out.1.set 0 (.slice (some ⟨gv, 0, none⟩) (vals.length + 1) capv) rfl HM3.out.2.1 HM3.out.1.lz.rs
        have hM5 := Lib.hid (hM4.set 1 (.slice A3 (row.length + 1) c3) rfl hM4.lz.vs (HM3.out.2.2.keep (KeepI.set HM3.out.1.lz.blk (by decide) _)))
        clear hM4 r1 r2 rm pa pb pc
        go_wp2_with fail
        go_meet
        exact ⟨_, _, _, _, _, _, by simp, HLN.out, hM5.out⟩
      · go_simp
        refine hK7.out _ _ (fun _ => by constructor <;> go_keep) ?_
        refine wpAnyG_ready (rs := [3]) (by kernel_rfl) (by simp) (AllReadyG.cons rfl (fun K6 hK6 => ?_) AllReadyG.nil)
        refine step_append_into rfl (.tmp 21) (.tmp 23) 22 rfl W.heap.size 3 i0 _ 8 Try.underlying22 hi0 hz0 hz1 hz2 rfl _ 0 0 [] (by rfl) (by with_reducible exact pc.own) (.slice A vals.length c) vals (by rfl) (by with_reducible exact pc.b) (by unfold maxLen; omega) (by omega) (by with_reducible exact pc.bel.size) _ (by rfl) ?_
        intro gg cap w1 hown1 hgrow hat hlt1
        obtain ⟨r1, rm⟩ := Cp1.next (by with_reducible exact pc) hown1 hgrow
        have hM1 := HM.out.below r1.bel
        have s2' := (r1.bel.cell (p := ⟨w.heap.size + 1, 2, none⟩) sl).trans s2
        have b0' : w1.cell? ⟨w.heap.size, 0, none⟩ = some (.slice A vals.length c) := hM1.lz.blk.cell 0
        have bl' := hM1.lz.blk.lt
        have sl' : w.heap.size + 1 < w1.heap.size := Nat.lt_of_lt_of_le sl r1.bel.size
        clear hown1 hgrow hat hlt1 hM1
        refine hK6.out _ _ (fun _ => ⟨b0', s2'⟩) ?_
        try simp only [Nat.zero_add, Act.put, List.getElem_toArray, List.getElem_cons_succ, List.getElem_cons_zero, List.setIfInBounds_toArray, List.set_cons_zero, List.set_cons_succ]
        refine wpAnyG_ready (rs := [7]) (by kernel_rfl) (by simp) (AllReadyG.cons rfl (fun K7 hK7 => ?_) AllReadyG.nil)
        refine step_append_lies _ rfl (.tmp 24) (.tmp 27) 22 rfl W.heap.size 3 i0 _ 1 8 Try.underlying22 hi0 hz0 hz1 hz2 rfl (by omega) (.slice (some ⟨gg, 0, none⟩) vals.length cap) vals.length (vals.map i64v) (by rfl) (by with_reducible exact r1.own) _ 1 1 [.int .i64 key] (by rfl) (by rfl) (news1 (by refine rm _ _ (by simp) ?_; simp)) (fun _ h => by rw [List.mem_singleton.1 h]; rfl) (by omega) (by unfold maxLen; omega) (by omega) (by with_reducible exact r1.le) _ (by rfl) ?_
        intro gv capv w2 hown2 hgrow2 hatv hlt2
        have r2 := Cp2.next (by with_reducible exact r1) hown2 hgrow2
        have hM2 := HM.out.below r2.bel
        have hN2 : NS w2 (.slice (some ⟨gv, 0, none⟩) (vals.length + 1) capv) (vals ++ [key]) := own_NS (n := vals.length + 1) (by simp) (by rw [List.map_append]; exact hown2)
        have s2'' := (r2.bel.cell (p := ⟨w.heap.size + 1, 2, none⟩) sl).trans s2
        have b0'' : w2.cell? ⟨w.heap.size, 0, none⟩ = some (.slice A vals.length c) := hM2.lz.blk.cell 0
        have sl'' : w.heap.size + 1 < w2.heap.size := Nat.lt_of_lt_of_le sl r2.bel.size
        have HM2 := Lib.hid (And.intro hM2 hN2)
        clear hown2 hgrow2 hatv hlt2 hM2 hN2
        refine hK7.out _ _ (fun _ => ⟨b0'', s2''⟩) ?_
        try simp only [Nat.zero_add, Act.put, List.getElem_toArray, List.getElem_cons_succ, List.getElem_cons_zero, List.setIfInBounds_toArray, List.set_cons_zero, List.set_cons_succ]
        refine wpAnyG_ready (rs := [12]) (by kernel_rfl) (by simp) (AllReadyG.cons rfl (fun K8 hK8 => ?_) AllReadyG.nil)
        refine step_call rfl 83 #[.int .i64 (vals.length : Int), .pointer (some ⟨w.heap.size, 0, none⟩)] (by go_simp) ((back_calls _ _ _ vals row (vals.length : Int) w2 HM2.out.1.lz (by omega)).mono ?_)
        rintro e w3 ⟨v3, rfl, o3, bb3⟩
        refine ⟨_, rfl, ?_⟩
        have hN3 := own_NS rfl o3
        obtain ⟨A3, c3, e3⟩ := own_form o3
        rw [HLN.out] at e3
        subst e3
        have hM3 := HM2.out.1.below bb3
        have hV3 := HM2.out.2.below bb3
        have b0_3 : w3.cell? ⟨w.heap.size, 0, none⟩ = some (.slice A vals.length c) := hM3.lz.blk.cell 0
        have b1_3 : w3.cell? ⟨w.heap.size, 1, none⟩ = some (.slice A2 row.length c2) := hM3.lz.blk.cell 1
        have s2_3 := (bb3.cell (p := ⟨w.heap.size + 1, 2, none⟩) sl'').trans s2''
        have fb_3 := hM3.lz.blk.frozen
        have bl_3 := hM3.lz.blk.lt
        have HM3 := Lib.hid (And.intro hM3 (And.intro hV3 hN3))
        clear o3 bb3 hN3 hM3 hV3
        simp only [Act.put, List.setIfInBounds_toArray, List.set_cons_zero, List.set_cons_succ]
        refine hK8.out _ _ (fun _ => ⟨b0_3, s2_3⟩) ?_
        refine wpAnyG_ready (rs := [13]) (by kernel_rfl) (by simp) (AllReadyG.cons rfl (fun K9 hK9 => ?_) AllReadyG.nil)
        go_simp
        refine hK9.out _ _ (fun _ => ⟨b0_3, s2_3⟩) ?_
        refine wpAnyG_ready (rs := [14]) (by kernel_rfl) (by simp) (AllReadyG.cons rfl (fun K10 hK10 => ?_) AllReadyG.nil)
        go_simp
        refine hK10.out _ _ (fun h => by cases h) ?_
        refine wpAnyG_done (by kernel_rfl) ?_ _
        have hM4 := HM3.out.1.set 0 (.slice (some ⟨gv, 0, none⟩) (vals.length + 1) capv) rfl HM3.out.2.1 HM3.out.1.lz.rs
        have hM5 := Lib.hid (hM4.set 1 (.slice A3 (row.length + 1) c3) rfl hM4.lz.vs (HM3.out.2.2.keep (KeepI.set HM3.out.1.lz.blk (by decide) _)))
        clear hM4 r1 r2 rm pa pb pc
        go_wp2_with fail
        go_meet
        exact ⟨_, _, _, _, _, _, by simp, HLN.out, hM5.out⟩
    · go_simp
      refine hK6.out _ _ (fun _ => by constructor <;> go_keep) ?_
      refine wpAnyG_ready (rs := [0]) (by kernel_rfl) (by simp) (AllReadyG.cons rfl (fun K11 hK11 => ?_) AllReadyG.nil)
      go_simp
      refine hK11.out _ _ (fun _ => by constructor <;> go_keep) ?_
      try simp only [Nat.zero_add, Act.put, List.getElem_toArray, List.getElem_cons_succ, List.getElem_cons_zero, List.setIfInBounds_toArray, List.set_cons_zero, List.set_cons_succ]
      refine wpAnyG_ready (rs := [3]) (by kernel_rfl) (by simp) (AllReadyG.cons rfl (fun K12 hK12 => ?_) AllReadyG.nil)
      refine step_append_into rfl (.tmp 21) (.tmp 23) 22 rfl W.heap.size 3 i0 _ 8 Try.underlying22 hi0 hz0 hz1 hz2 rfl _ 0 0 [] (by rfl) (by with_reducible exact pb.own) (.slice A vals.length c) vals (by rfl) (by with_reducible exact pb.b) (by unfold maxLen; omega) (by omega) (by with_reducible exact pb.bel.size) _ (by rfl) ?_
      intro gg cap w1 hown1 hgrow hat hlt1
      obtain ⟨r1, rm⟩ := Cp1.next (by with_reducible exact pb) hown1 hgrow
      have hM1 := HM.out.below r1.bel
      have s2' := (r1.bel.cell (p := ⟨w.heap.size + 1, 2, none⟩) sl).trans s2
      have b0' : w1.cell? ⟨w.heap.size, 0, none⟩ = some (.slice A vals.length c) := hM1.lz.blk.cell 0
      have bl' := hM1.lz.blk.lt
      have sl' : w.heap.size + 1 < w1.heap.size := Nat.lt_of_lt_of_le sl r1.bel.size
      clear hown1 hgrow hat hlt1 hM1
      refine hK12.out _ _ (fun _ => ⟨b0', s2'⟩) ?_
      try simp only [Nat.zero_add, Act.put, List.getElem_toArray, List.getElem_cons_succ, List.getElem_cons_zero, List.setIfInBounds_toArray, List.set_cons_zero, List.set_cons_succ]
      refine wpAnyG_ready (rs := [7]) (by kernel_rfl) (by simp) (AllReadyG.cons rfl (fun K13 hK13 => ?_) AllReadyG.nil)
      refine step_append_lies _ rfl (.tmp 24) (.tmp 27) 22 rfl W.heap.size 3 i0 _ 1 8 Try.underlying22 hi0 hz0 hz1 hz2 rfl (by omega) (.slice (some ⟨gg, 0, none⟩) vals.length cap) vals.length (vals.map i64v) (by rfl) (by with_reducible exact r1.own) _ 1 1 [.int .i64 key] (by rfl) (by rfl) (news1 (by refine rm _ _ (by simp) ?_; simp)) (fun _ h => by rw [List.mem_singleton.1 h]; rfl) (by omega) (by unfold maxLen; omega) (by omega) (by with_reducible exact r1.le) _ (by rfl) ?_
      intro gv capv w2 hown2 hgrow2 hatv hlt2
      have r2 := Cp2.next (by with_reducible exact r1) hown2 hgrow2
      have hM2 := HM.out.below r2.bel
      have hN2 : NS w2 (.slice (some ⟨gv, 0, none⟩) (vals.length + 1) capv) (vals ++ [key]) := own_NS (n := vals.length + 1) (by simp) (by rw [List.map_append]; exact hown2)
      have s2'' := (r2.bel.cell (p := ⟨w.heap.size + 1, 2, none⟩) sl).trans s2
      have b0'' : w2.cell? ⟨w.heap.size, 0, none⟩ = some (.slice A vals.length c) := hM2.lz.blk.cell 0
      have sl'' : w.heap.size + 1 < w2.heap.size := Nat.lt_of_lt_of_le sl r2.bel.size
      have HM2 := Lib.hid (And.intro hM2 hN2)
      clear hown2 hgrow2 hatv hlt2 hM2 hN2
      refine hK13.out _ _ (fun _ => ⟨b0'', s2''⟩) ?_
      try simp only [Nat.zero_add, Act.put, List.getElem_toArray, List.getElem_cons_succ, List.getElem_cons_zero, List.setIfInBounds_toArray, List.set_cons_zero, List.set_cons_succ]
      refine wpAnyG_ready (rs := [12]) (by kernel_rfl) (by simp) (AllReadyG.cons rfl (fun K14 hK14 => ?_) AllReadyG.nil)
      refine step_call rfl 83 #[.int .i64 (vals.length : Int), .pointer (some ⟨w.heap.size, 0, none⟩)] (by go_simp) ((back_calls _ _ _ vals row (vals.length : Int) w2 HM2.out.1.lz (by omega)).mono ?_)
      rintro e w3 ⟨v3, rfl, o3, bb3⟩
      refine ⟨_, rfl, ?_⟩
      have hN3 := own_NS rfl o3
      obtain ⟨A3, c3, e3⟩ := own_form o3
      rw [HLN.out] at e3
      subst e3
      have hM3 := HM2.out.1.below bb3
      have hV3 := HM2.out.2.below bb3
      have b0_3 : w3.cell? ⟨w.heap.size, 0, none⟩ = some (.slice A vals.length c) := hM3.lz.blk.cell 0
      have b1_3 : w3.cell? ⟨w.heap.size, 1, none⟩ = some (.slice A2 row.length c2) := hM3.lz.blk.cell 1
      have s2_3 := (bb3.cell (p := ⟨w.heap.size + 1, 2, none⟩) sl'').trans s2''
      have fb_3 := hM3.lz.blk.frozen
      have bl_3 := hM3.lz.blk.lt
      have HM3 := Lib.hid (And.intro hM3 (And.intro hV3 hN3))
      clear o3 bb3 hN3 hM3 hV3
      simp only [Act.put, List.setIfInBounds_toArray, List.set_cons_zero, List.set_cons_succ]
      refine hK14.out _ _ (fun _ => ⟨b0_3, s2_3⟩) ?_
      refine wpAnyG_ready (rs := [13]) (by kernel_rfl) (by simp) (AllReadyG.cons rfl (fun K15 hK15 => ?_) AllReadyG.nil)
      go_simp
      refine hK15.out _ _ (fun _ => ⟨b0_3, s2_3⟩) ?_
      refine wpAnyG_ready (rs := [14]) (by kernel_rfl) (by simp) (AllReadyG.cons rfl (fun K16 hK16 => ?_) AllReadyG.nil)
      go_simp
      refine hK16.out _ _ (fun h => by cases h) ?_
      refine wpAnyG_done (by kernel_rfl) ?_ _
      have hM4 := HM3.out.1.set 0 (.slice (some ⟨gv, 0, none⟩) (vals.length + 1) capv) rfl HM3.out.2.1 HM3.out.1.lz.rs
      have hM5 := Lib.hid (hM4.set 1 (.slice A3 (row.length + 1) c3) rfl hM4.lz.vs (HM3.out.2.2.keep (KeepI.set HM3.out.1.lz.blk (by decide) _)))
      clear hM4 r1 r2 rm pa pb pc
      go_wp2_with fail
      go_meet
      exact ⟨_, _, _, _, _, _, by simp, HLN.out, hM5.out⟩
  case rest =>
    clear s1 s2 s3 b0 b1 fb x2 fx sl bl pa pb pc
    obtain ⟨A3, n3, c3, A4, n4, c4, e3, e4, hM5⟩ := hcut
    have HM5 := Lib.hid (And.intro e3 (And.intro e4 hM5))
    clear e3 e4 hM5
    go_upto_region 26 with (fail)
    have b0 : wc.cell? ⟨w.heap.size, 0, none⟩ = some (.slice A3 n3 c3) := HM5.out.2.2.lz.blk.cell 0
    have b1 : wc.cell? ⟨w.heap.size, 1, none⟩ = some (.slice A4 n4 c4) := HM5.out.2.2.lz.blk.cell 1
    have x0 : wc.cell? ⟨w.heap.size + 1 + 1 + 1 + 1, 0, none⟩ = some (.int .i64 0) := HM5.out.2.2.x.cell 0
    have x1 : wc.cell? ⟨w.heap.size + 1 + 1 + 1 + 1, 1, none⟩ = some (.bool false) := HM5.out.2.2.x.cell 1
    have x2 : wc.cell? ⟨w.heap.size + 1 + 1 + 1 + 1, 2, none⟩ = some (.slice none 0 0) := HM5.out.2.2.x.cell 2
    have x3 : wc.cell? ⟨w.heap.size + 1 + 1 + 1 + 1, 3, none⟩ = some (.slice none 0 0) := HM5.out.2.2.x.cell 3
    have y0 : wc.cell? ⟨w.heap.size + 1 + 1, 0, none⟩ = some (.slice none 0 0) := HM5.out.2.2.r1.cell 0
    have y1 : wc.cell? ⟨w.heap.size + 1 + 1, 1, none⟩ = some (.slice none 0 0) := HM5.out.2.2.r1.cell 1
    have z0 : wc.cell? ⟨w.heap.size + 1 + 1 + 1, 0, none⟩ = some (.int .i64 0) := HM5.out.2.2.r2.cell 0
    have z1 : wc.cell? ⟨w.heap.size + 1 + 1 + 1, 1, none⟩ = some (.bool false) := HM5.out.2.2.r2.cell 1
    have z2 : wc.cell? ⟨w.heap.size + 1 + 1 + 1, 2, none⟩ = some (.slice none 0 0) := HM5.out.2.2.r2.cell 2
    have z3 : wc.cell? ⟨w.heap.size + 1 + 1 + 1, 3, none⟩ = some (.slice none 0 0) := HM5.out.2.2.r2.cell 3
    have f1 := HM5.out.2.2.r1.frozen
    have f2 := HM5.out.2.2.r2.frozen
    have l1 := HM5.out.2.2.lz.blk.lt
    have l2 := HM5.out.2.2.x.lt
    go_region_with (fail)
    all_goals
      go_wp2_with fail
      refine bodyPost_ret (v := .tuple #[.agg #[.slice A3 n3 c3, .slice A4 n4 c4], .agg #[.int .i64 0, .bool false, .slice none 0 0, .slice none 0 0]]) (by simp [results, Try.results45, go_sem, y0, y1, z0, z1, z2, z3]) rfl ?_
      with_reducible exact do_fin9 HM5.out.1 HM5.out.2.1 HM5.out.2.2
end Go.Proofs.Ytinajjceojfflaa.Kp
