/- interval trees: Add (Put's text, turned). -/
import Derived.Test.YtomclflknjkhfaaItvT
namespace Go.Proofs.Ytomclflknjkhfaa
open Go.RowKit ItP

set_option maxRecDepth 100000 in
set_option maxHeartbeats 3200000 in
theorem tree_add (tb : Nat) (s : Sp) (t : IT) (w : World) (ht : TreeW w tb t) (hn : t.ids.Nodup) (rt : t.Rt) (hs : t.ids.length ≤ 10000000000) (hp : s.lo ≤ s.hi) :
    Calls Try.prog 70 #[.pointer (some ⟨tb, 0, none⟩), .int .i64 s.lo, .int .i64 s.hi, .int .i64 s.v] w fun e w' => e = .returned (.tuple #[kvOf (t.get s.lo), .bool (t.get s.lo).isSome]) ∧ ∃ nb, w.heap.size ≤ nb ∧ TreeW w' tb (t.ins s false nb) ∧ Fr (tb :: t.ids) w w' := by
  have HT0 := Lib.hid ht
  have HI := Lib.hid (fun w1 (h1 : t.In w1) => ins_calls s false t w1 h1 hn rt hs)
  have HP := Lib.hid hp
  obtain ⟨x, y, z, hk⟩ := kv_form (t.get s.lo)
  have HKV := Lib.hid hk
  obtain ⟨W, hW⟩ : ∃ W, W = w.alloc (Obj.cells #[.int .i64 0, .int .i64 0, .int .i64 0] 131) := ⟨_, rfl⟩
  have c0 : W.cell? ⟨tb, 0, none⟩ = some (.pointer t.ptr) := by rw [hW]; exact (ht.at_.alloc _).cell 0
  have tl : tb < W.heap.size := by rw [hW]; exact (ht.at_.alloc _).lt
  have hC : ∀ wc, Fr [] W wc → Calls Try.prog 99 #[.pointer t.ptr, .agg #[.int .i64 s.lo, .int .i64 s.hi], .int .i64 s.v, .bool false] wc fun e w2 => ∃ nb, w.heap.size ≤ nb ∧ e = .returned (.tuple #[.pointer (t.ins s false nb).ptr, .agg #[.int .i64 x, .int .i64 y, .int .i64 z], .bool (t.get s.lo).isSome]) ∧ OpMid w tb t (t.ins s false nb) w2 ∧ Fr t.ids wc w2 ∧ t.In wc := by
    intro wc f
    have hz : W.heap.size = w.heap.size + 1 := by rw [hW]; simp
    have f0 : Fr [] w wc := by rw [hW] at f; exact (Fr.alloc [] w _).comp f
    have hin := (HT0.out.fr f0).lies
    refine (HI.out wc hin).mono ?_
    rintro e w2 ⟨nb, hnb, rfl, hin2, hfr⟩
    exact ⟨nb, by have := f.size; omega, by rw [hk], OpMid.mk' hW HT0.out f hfr hin2, hfr, hin⟩
  have HC := Lib.hid hC
  have HW := Lib.hid hW
  have HTW := Lib.hid (show Blk W tb #[.pointer t.ptr] 142 by rw [hW]; exact ht.at_.alloc _)
  have HZ := Lib.hid (show W.heap.size = w.heap.size + 1 by rw [hW]; simp)
  clear hk ht hp hC
  go_enter Try.func70, Try.ntmps70
  go_upto_region 1 with (fail)
  rw [← hW]
  clear hW
  go_cut [10, 11, 12] (fun s10 s11 s12 wx => s12 = .bool (t.get s.lo).isSome ∧ ∃ nb c, s10 = .pointer (t.ins s false nb).ptr ∧ s11 = .pointer (some ⟨c, 0, none⟩) ∧ w.heap.size ≤ nb ∧ Hid (OpEnd w tb t (t.ins s false nb) x y z c wx))
  case first =>
    go_region_with (first
      | (go_at_call 100; refine (newIntrvl_calls _ _ _ HP.out).mono ?_; rintro e w1 ⟨rfl, f1⟩; have c1 : w1.cell? ⟨tb, 0, none⟩ = some (.pointer t.ptr) := (by first | exact (Blk.fr (HTW.out.drewN 1) f1 (by simp)).cell 0 | exact (Blk.fr ((HTW.out.drewN 1).alloc _) f1 (by simp)).cell 0); have tl1 : tb < w1.heap.size := World.block_lt_of_cell? w1 _ c1)
      | (go_at_call 99; refine (HC.out _ (by first | exact (Fr.drewN _ _ 1).comp f1 | exact ((Fr.drewN _ _ 1).comp f1).comp (Fr.alloc _ _ _) | exact ((Fr.drewN _ _ 1).comp (Fr.alloc _ _ _)).comp f1)).mono ?_; rintro e w2 ⟨nb, hnb, rfl, hm, hfr, hin⟩; first
        | (have Z := (Blk.new w1 #[.int .i64 0, .int .i64 0, .int .i64 0] 131).fr hfr (in_ne (Blk.new w1 _ _) (by decide) hin); have Zn : w.heap.size < w1.heap.size := (by have h1 : W.heap.size ≤ w1.heap.size := f1.size; have := HZ.out; omega); have z0 : w2.cell? ⟨w1.heap.size, 0, none⟩ = some (.int .i64 0) := Z.cell 0; have z1 : w2.cell? ⟨w1.heap.size, 1, none⟩ = some (.int .i64 0) := Z.cell 1; have z2 : w2.cell? ⟨w1.heap.size, 2, none⟩ = some (.int .i64 0) := Z.cell 2; have zf : ∀ i, w2.frozen? ⟨w1.heap.size, i, none⟩ = false := Z.frozen)
        | (have Z := (((Blk.new (W.drewN 1) #[.int .i64 0, .int .i64 0, .int .i64 0] 131)).fr f1 (by simp)).fr hfr (in_ne ((Blk.new (W.drewN 1) #[.int .i64 0, .int .i64 0, .int .i64 0] 131).fr f1 (by simp)) (by decide) hin); have Zn : w.heap.size < W.heap.size := (by have := HZ.out; omega); have z0 : w2.cell? ⟨W.heap.size, 0, none⟩ = some (.int .i64 0) := Z.cell 0; have z1 : w2.cell? ⟨W.heap.size, 1, none⟩ = some (.int .i64 0) := Z.cell 1; have z2 : w2.cell? ⟨W.heap.size, 2, none⟩ = some (.int .i64 0) := Z.cell 2; have zf : ∀ i, w2.frozen? ⟨W.heap.size, i, none⟩ = false := Z.frozen)
        | skip))
    all_goals
      go_wp2_with fail
      go_meet
      refine ⟨rfl, nb, _, rfl, rfl, hnb, ?_⟩
      first
        | exact hm.done x y z Z Zn
        | exact hm.new x y z
  case rest =>
  obtain ⟨rfl, nb, c, rfl, rfl, hnb, HM⟩ := hcut
  have r0 : wc.cell? ⟨tb, 0, none⟩ = some (.pointer t.ptr) := HM.out.root.cell 0
  have rf : ∀ i, wc.frozen? ⟨tb, i, none⟩ = false := HM.out.root.frozen
  have b0 : wc.cell? ⟨c, 0, none⟩ = some (.int .i64 x) := HM.out.box.cell 0
  have b1 : wc.cell? ⟨c, 1, none⟩ = some (.int .i64 y) := HM.out.box.cell 1
  have b2 : wc.cell? ⟨c, 2, none⟩ = some (.int .i64 z) := HM.out.box.cell 2
  have q0 : wc.cell? ⟨w.heap.size, 0, none⟩ = some (.int .i64 0) := HM.out.res.cell 0
  have q1 : wc.cell? ⟨w.heap.size, 1, none⟩ = some (.int .i64 0) := HM.out.res.cell 1
  have q2 : wc.cell? ⟨w.heap.size, 2, none⟩ = some (.int .i64 0) := HM.out.res.cell 2
  have qf : ∀ i, wc.frozen? ⟨w.heap.size, i, none⟩ = false := HM.out.res.frozen
  have n1 : ¬ c = tb := fun e => absurd (Blk.ty (e ▸ HM.out.box) HM.out.root) (by decide)
  have n1' : ¬ tb = c := fun e => n1 e.symm
  have n2 : ¬ tb = w.heap.size := fun e => absurd (Blk.ty (e ▸ HM.out.root) HM.out.res) (by decide)
  have n2' : ¬ w.heap.size = tb := fun e => n2 e.symm
  go_wp2_with fail
  refine bodyPost_ret (v := .tuple #[.agg #[.int .i64 x, .int .i64 y, .int .i64 z], .bool (t.get s.lo).isSome]) (by simp [results, Try.results70, go_sem, q0, q1, q2]) rfl ?_
  obtain ⟨g1, g2⟩ := HM.out.fin
  exact ⟨by rw [HKV.out], nb, hnb, g1, g2⟩
end Go.Proofs.Ytomclflknjkhfaa
