/- interval trees: the tree's methods. -/
import Derived.Test.YtomclflknjkhfaaItv6
import Derived.Test.YtomclflknjkhfaaFnd
namespace Go.Proofs.Ytomclflknjkhfaa
open Go.RowKit ItP

theorem iv_load {w : World} {s : Nat} {a b : Value} (h : Blk w s #[a, b] 170) : (loadVar 170 ⟨s, 0, none⟩).run Try.prog w = .ok (.agg #[a, b]) w := by
  have c0 : w.cell? ⟨s, 0, none⟩ = some a := h.cell 0
  have c1 : w.cell? ⟨s, 1, none⟩ = some b := h.cell 1
  clear h
  go_simp
set_option maxRecDepth 100000 in
theorem newIntrvl_calls (a b : Int) (w : World) (h : a ≤ b) : Calls Try.prog 100 #[.int .i64 a, .int .i64 b] w fun e w' => e = .returned (.agg #[.int .i64 a, .int .i64 b]) ∧ Fr [] w w' := by
  go_enter Try.func100, Try.ntmps100
  go_wp2_with fail
  exact bodyPost_ret (results_cell rfl _ _ _ rfl (iv_load (Blk.new w _ _))) rfl ⟨rfl, Fr.alloc _ _ _⟩
/-- the tree's own block: the root. -/
def TreeI (w : World) (tb : Nat) (t : IT) : Prop := Blk w tb #[.pointer t.ptr] 142
/-- what a tree is in memory. -/
structure TreeW (w : World) (tb : Nat) (t : IT) : Prop where
  at_ : TreeI w tb t
  lies : t.In w
theorem TreeW.fr {w w' : World} {tb : Nat} {t : IT} (h : TreeW w tb t) (hf : Fr [] w w') : TreeW w' tb t := ⟨h.at_.fr hf (by simp), IT.In.fr hf h.lies (by simp)⟩
theorem in_ne {w : World} {c : Nat} {cs : Array Value} {T' : TypeId} (hc : Blk w c cs T') (hT : T' ≠ 178) : ∀ {t : IT}, t.In w → c ∉ t.ids
  | .nil, _ => by simp [IT.ids]
  | .node _ _ _ _ l r, h => by
    simp only [IT.ids, List.mem_cons, List.mem_append, not_or]
    exact ⟨fun e => by subst e; exact hT (Blk.ty hc h.1), in_ne hc hT h.2.1, in_ne hc hT h.2.2⟩
/-- behind the call: what is told in the block c, the root not yet stored. -/
structure OpEnd (w : World) (tb : Nat) (t T : IT) (x y z : Int) (c : Nat) (wx : World) : Prop where
  root : TreeI wx tb t
  lies : T.In wx
  res : Blk wx w.heap.size #[.int .i64 0, .int .i64 0, .int .i64 0] 131
  box : Blk wx c #[.int .i64 x, .int .i64 y, .int .i64 z] 131
  ne : w.heap.size < c
  fr : Fr t.ids w wx
/-- behind the call itself. -/
structure OpMid (w : World) (tb : Nat) (t T : IT) (wx : World) : Prop where
  root : TreeI wx tb t
  lies : T.In wx
  res : Blk wx w.heap.size #[.int .i64 0, .int .i64 0, .int .i64 0] 131
  fr : Fr t.ids w wx
  sz : w.heap.size + 1 ≤ wx.heap.size
theorem OpMid.mk' {w W wc w2 : World} {tb : Nat} {t T : IT} (hW : W = w.alloc (Obj.cells #[.int .i64 0, .int .i64 0, .int .i64 0] 131)) (hw : TreeW w tb t) (f : Fr [] W wc) (hf : Fr t.ids wc w2) (hin : T.In w2) : OpMid w tb t T w2 := by
  have hz : W.heap.size = w.heap.size + 1 := by rw [hW]; simp
  have f0 : Fr [] w wc := by rw [hW] at f; exact (Fr.alloc [] w _).comp f
  have hB : Blk W w.heap.size #[.int .i64 0, .int .i64 0, .int .i64 0] 131 := by rw [hW]; exact Blk.new w _ _
  have t1 := hw.fr f0
  exact ⟨t1.at_.fr hf (in_ne t1.at_ (by decide) t1.lies), hin, (hB.fr f (by simp)).fr hf (in_ne (hB.fr f (by simp)) (by decide) t1.lies), (f0.mono (by simp)).comp hf, by have := f.size; have := hf.size; omega⟩
theorem OpMid.alloc {w wx : World} {tb : Nat} {t T : IT} (h : OpMid w tb t T wx) (o : Obj) : OpMid w tb t T (wx.alloc o) :=
  ⟨h.root.alloc o, IT.In.alloc o h.lies, h.res.alloc o, h.fr.comp (Fr.alloc _ _ _), by have := h.sz; simp; omega⟩
theorem OpMid.done {w w2 : World} {tb : Nat} {t T : IT} (h : OpMid w tb t T w2) {c : Nat} (x y z : Int) (hc : Blk w2 c #[.int .i64 0, .int .i64 0, .int .i64 0] 131) (hn : w.heap.size < c) :
    OpEnd w tb t T x y z c (((w2.setCell ⟨c, 0, none⟩ (.int .i64 x)).setCell ⟨c, 1, none⟩ (.int .i64 y)).setCell ⟨c, 2, none⟩ (.int .i64 z)) := by
  have f4 : Fr [c] w2 (((w2.setCell ⟨c, 0, none⟩ (.int .i64 x)).setCell ⟨c, 1, none⟩ (.int .i64 y)).setCell ⟨c, 2, none⟩ (.int .i64 z)) :=
    ((Fr.setCell _ _ 0 _ (by simp)).comp (Fr.setCell _ _ 1 _ (by simp))).comp (Fr.setCell _ _ 2 _ (by simp))
  refine ⟨h.root.fr f4 (fun e => ?_), IT.In.fr f4 h.lies (fun i hi e => ?_), h.res.fr f4 (by simp; omega), ((hc.set 0 _).set 1 _).set 2 _, hn, h.fr.trans f4 (fun _ h => .inl h) (fun i hx => .inr (by rw [List.mem_singleton.1 hx]; omega))⟩
  · rw [List.mem_singleton.1 e] at h
    exact absurd (Blk.ty h.root hc) (by decide)
  · rw [List.mem_singleton.1 e] at hi
    exact in_ne hc (by decide) h.lies hi
theorem OpMid.new {w w2 : World} {tb : Nat} {t T : IT} (h : OpMid w tb t T w2) (x y z : Int) : OpEnd w tb t T x y z w2.heap.size (w2.alloc (Obj.cells #[.int .i64 x, .int .i64 y, .int .i64 z] 131)) :=
  ⟨h.root.alloc _, IT.In.alloc _ h.lies, h.res.alloc _, Blk.new w2 _ _, by have := h.sz; omega, h.fr.comp (Fr.alloc _ _ _)⟩
/-- the root stored, and what is told. -/
theorem OpEnd.fin {w wx : World} {tb : Nat} {t T : IT} {x y z : Int} {c : Nat} (h : OpEnd w tb t T x y z c wx) :
    TreeW ((((wx.setCell ⟨tb, 0, none⟩ (.pointer T.ptr)).setCell ⟨w.heap.size, 0, none⟩ (.int .i64 x)).setCell ⟨w.heap.size, 1, none⟩ (.int .i64 y)).setCell ⟨w.heap.size, 2, none⟩ (.int .i64 z)) tb T ∧
      Fr (tb :: t.ids) w ((((wx.setCell ⟨tb, 0, none⟩ (.pointer T.ptr)).setCell ⟨w.heap.size, 0, none⟩ (.int .i64 x)).setCell ⟨w.heap.size, 1, none⟩ (.int .i64 y)).setCell ⟨w.heap.size, 2, none⟩ (.int .i64 z)) := by
  have hne : tb ≠ w.heap.size := fun e => by have h1 := h.root; rw [e] at h1; exact absurd (Blk.ty h1 h.res) (by decide)
  have t1 : TreeI (wx.setCell ⟨tb, 0, none⟩ (.pointer T.ptr)) tb T := h.root.set 0 _
  have f1 : Fr [tb] wx (wx.setCell ⟨tb, 0, none⟩ (.pointer T.ptr)) := Fr.setCell _ tb 0 _ (by simp)
  have i1 := IT.In.fr f1 h.lies (fun i hi e => by rw [List.mem_singleton.1 e] at hi; exact in_ne h.root (by decide) h.lies hi)
  have f4 : Fr [w.heap.size] (wx.setCell ⟨tb, 0, none⟩ (.pointer T.ptr)) _ :=
    ((Fr.setCell _ w.heap.size 0 (.int .i64 x) (by simp)).comp (Fr.setCell _ w.heap.size 1 (.int .i64 y) (by simp))).comp (Fr.setCell _ w.heap.size 2 (.int .i64 z) (by simp))
  refine ⟨⟨t1.fr f4 (by simpa using hne), IT.In.fr f4 i1 (fun i hi e => by rw [List.mem_singleton.1 e] at hi; exact in_ne h.res (by decide) h.lies hi)⟩, ?_⟩
  exact ((h.fr.mono (fun i hi => .inl (List.mem_cons_of_mem _ hi))).comp (f1.mono (fun i hi => .inl (by rw [List.mem_singleton.1 hi]; simp)))).trans f4 (fun _ h => .inl h) (fun i hx => .inr (by rw [List.mem_singleton.1 hx]; omega))
set_option maxRecDepth 100000 in
set_option maxHeartbeats 3200000 in
theorem tree_put (tb : Nat) (s : Sp) (t : IT) (w : World) (ht : TreeW w tb t) (hn : t.ids.Nodup) (rt : t.Rt) (hs : t.ids.length ≤ 10000000000) (hp : s.lo ≤ s.hi) :
    Calls Try.prog 69 #[.pointer (some ⟨tb, 0, none⟩), .int .i64 s.lo, .int .i64 s.hi, .int .i64 s.v] w fun e w' => e = .returned (.tuple #[kvOf (t.get s.lo), .bool (t.get s.lo).isSome]) ∧ ∃ nb, w.heap.size ≤ nb ∧ TreeW w' tb (t.ins s true nb) ∧ Fr (tb :: t.ids) w w' := by
  have HT0 := Lib.hid ht
  have HI := Lib.hid (fun w1 (h1 : t.In w1) => ins_calls s true t w1 h1 hn rt hs)
  have HP := Lib.hid hp
  obtain ⟨x, y, z, hk⟩ := kv_form (t.get s.lo)
  have HKV := Lib.hid hk
  obtain ⟨W, hW⟩ : ∃ W, W = w.alloc (Obj.cells #[.int .i64 0, .int .i64 0, .int .i64 0] 131) := ⟨_, rfl⟩
  have c0 : W.cell? ⟨tb, 0, none⟩ = some (.pointer t.ptr) := by rw [hW]; exact (ht.at_.alloc _).cell 0
  have tl : tb < W.heap.size := by rw [hW]; exact (ht.at_.alloc _).lt
  have hC : ∀ wc, Fr [] W wc → Calls Try.prog 99 #[.pointer t.ptr, .agg #[.int .i64 s.lo, .int .i64 s.hi], .int .i64 s.v, .bool true] wc fun e w2 => ∃ nb, w.heap.size ≤ nb ∧ e = .returned (.tuple #[.pointer (t.ins s true nb).ptr, .agg #[.int .i64 x, .int .i64 y, .int .i64 z], .bool (t.get s.lo).isSome]) ∧ OpMid w tb t (t.ins s true nb) w2 ∧ Fr t.ids wc w2 ∧ t.In wc := by
    intro wc f
    have hz : W.heap.size = w.heap.size + 1 := by rw [hW]; simp
    have f0 : Fr [] w wc := by rw [hW] at f; exact (Fr.alloc [] w _).comp f
    have hin := (HT0.out.fr f0).lies
    refine (HI.out wc hin).mono ?_
    rintro e w2 ⟨nb, hnb, rfl, hin2, hfr⟩
    exact ⟨nb, by have := f.size; omega, by rw [hk], OpMid.mk' hW HT0.out f hfr hin2, hfr, hin⟩
  have HC := Lib.hid hC
  have HW := Lib.hid hW
  have HTW := Lib.hid (show Blk W tb #[.pointer t.ptr] 142 by rw [hW]; exact ht.at_.alloc _)
  have HZ := Lib.hid (show W.heap.size = w.heap.size + 1 by rw [hW]; simp)
  clear hk ht hp hC
  go_enter Try.func69, Try.ntmps69
  go_upto_region 1 with (fail)
  rw [← hW]
  clear hW
  go_cut [10, 11, 12] (fun s10 s11 s12 wx => s12 = .bool (t.get s.lo).isSome ∧ ∃ nb c, s10 = .pointer (t.ins s true nb).ptr ∧ s11 = .pointer (some ⟨c, 0, none⟩) ∧ w.heap.size ≤ nb ∧ Hid (OpEnd w tb t (t.ins s true nb) x y z c wx))
  case first =>
    go_region_with (first
      | (go_at_call 100; refine (newIntrvl_calls _ _ _ HP.out).mono ?_; rintro e w1 ⟨rfl, f1⟩; have c1 : w1.cell? ⟨tb, 0, none⟩ = some (.pointer t.ptr) := (by first | exact (Blk.fr (HTW.out.drewN 1) f1 (by simp)).cell 0 | exact (Blk.fr ((HTW.out.drewN 1).alloc _) f1 (by simp)).cell 0); have tl1 : tb < w1.heap.size := World.block_lt_of_cell? w1 _ c1)
      | (go_at_call 99; refine (HC.out _ (by first | exact (Fr.drewN _ _ 1).comp f1 | exact ((Fr.drewN _ _ 1).comp f1).comp (Fr.alloc _ _ _) | exact ((Fr.drewN _ _ 1).comp (Fr.alloc _ _ _)).comp f1)).mono ?_; rintro e w2 ⟨nb, hnb, rfl, hm, hfr, hin⟩; first
        | (have Z := (Blk.new w1 #[.int .i64 0, .int .i64 0, .int .i64 0] 131).fr hfr (in_ne (Blk.new w1 _ _) (by decide) hin); have Zn : w.heap.size < w1.heap.size := (by have h1 : W.heap.size ≤ w1.heap.size := f1.size; have := HZ.out; omega); have z0 : w2.cell? ⟨w1.heap.size, 0, none⟩ = some (.int .i64 0) := Z.cell 0; have z1 : w2.cell? ⟨w1.heap.size, 1, none⟩ = some (.int .i64 0) := Z.cell 1; have z2 : w2.cell? ⟨w1.heap.size, 2, none⟩ = some (.int .i64 0) := Z.cell 2; have zf : ∀ i, w2.frozen? ⟨w1.heap.size, i, none⟩ = false := Z.frozen)
        | (have Z := (((Blk.new (W.drewN 1) #[.int .i64 0, .int .i64 0, .int .i64 0] 131)).fr f1 (by simp)).fr hfr (in_ne ((Blk.new (W.drewN 1) #[.int .i64 0, .int .i64 0, .int .i64 0] 131).fr f1 (by simp)) (by decide) hin); have Zn : w.heap.size < W.heap.size := (by have := HZ.out; omega); have z0 : w2.cell? ⟨W.heap.size, 0, none⟩ = some (.int .i64 0) := Z.cell 0; have z1 : w2.cell? ⟨W.heap.size, 1, none⟩ = some (.int .i64 0) := Z.cell 1; have z2 : w2.cell? ⟨W.heap.size, 2, none⟩ = some (.int .i64 0) := Z.cell 2; have zf : ∀ i, w2.frozen? ⟨W.heap.size, i, none⟩ = false := Z.frozen)
        | skip))
    all_goals
      go_wp2_with fail
      go_meet
      refine ⟨rfl, nb, _, rfl, rfl, hnb, ?_⟩
      first
        | exact hm.done x y z Z Zn
        | exact hm.new x y z
  case rest =>
  obtain ⟨rfl, nb, c, rfl, rfl, hnb, HM⟩ := hcut
  have r0 : wc.cell? ⟨tb, 0, none⟩ = some (.pointer t.ptr) := HM.out.root.cell 0
  have rf : ∀ i, wc.frozen? ⟨tb, i, none⟩ = false := HM.out.root.frozen
  have b0 : wc.cell? ⟨c, 0, none⟩ = some (.int .i64 x) := HM.out.box.cell 0
  have b1 : wc.cell? ⟨c, 1, none⟩ = some (.int .i64 y) := HM.out.box.cell 1
  have b2 : wc.cell? ⟨c, 2, none⟩ = some (.int .i64 z) := HM.out.box.cell 2
  have q0 : wc.cell? ⟨w.heap.size, 0, none⟩ = some (.int .i64 0) := HM.out.res.cell 0
  have q1 : wc.cell? ⟨w.heap.size, 1, none⟩ = some (.int .i64 0) := HM.out.res.cell 1
  have q2 : wc.cell? ⟨w.heap.size, 2, none⟩ = some (.int .i64 0) := HM.out.res.cell 2
  have qf : ∀ i, wc.frozen? ⟨w.heap.size, i, none⟩ = false := HM.out.res.frozen
  have n1 : ¬ c = tb := fun e => absurd (Blk.ty (e ▸ HM.out.box) HM.out.root) (by decide)
  have n1' : ¬ tb = c := fun e => n1 e.symm
  have n2 : ¬ tb = w.heap.size := fun e => absurd (Blk.ty (e ▸ HM.out.root) HM.out.res) (by decide)
  have n2' : ¬ w.heap.size = tb := fun e => n2 e.symm
  go_wp2_with fail
  refine bodyPost_ret (v := .tuple #[.agg #[.int .i64 x, .int .i64 y, .int .i64 z], .bool (t.get s.lo).isSome]) (by simp [results, Try.results69, go_sem, q0, q1, q2]) rfl ?_
  obtain ⟨g1, g2⟩ := HM.out.fin
  exact ⟨by rw [HKV.out], nb, hnb, g1, g2⟩
end Go.Proofs.Ytomclflknjkhfaa
