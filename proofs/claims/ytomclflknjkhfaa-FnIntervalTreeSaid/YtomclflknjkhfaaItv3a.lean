/- interval trees in memory: insert. -/
import Derived.Test.YtomclflknjkhfaaItv2
import Derived.Deep.CutBlock
namespace Go.Proofs.Ytomclflknjkhfaa
open Go.RowKit ItP

theorem results_cell {fn : Func} {t : Tmp} {ty : TypeId} (h : fn.results = #[.cell t ty]) (tmps : Array Value) (P : Program) (w : World) {b : Addr} {v : Value} (hp : tmps.getD t undef = .pointer (some b)) (hl : (loadVar ty b).run P w = .ok v w) :
    (results fn tmps).run P w = .ok v w := by
  have hp' : tmps[t]?.getD undef = .pointer (some b) := by simpa using hp
  simp [results, h, asAddr, hp', hl]
theorem kv_load {w : World} {s : Nat} {a b c : Value} (h : Blk w s #[a, b, c] 131) : (loadVar 131 ⟨s, 0, none⟩).run Try.prog w = .ok (.agg #[a, b, c]) w := by
  have c0 : w.cell? ⟨s, 0, none⟩ = some a := h.cell 0
  have c1 : w.cell? ⟨s, 1, none⟩ = some b := h.cell 1
  have c2 : w.cell? ⟨s, 2, none⟩ = some c := h.cell 2
  clear h
  go_simp
def kvOf : Option Sp → Value
  | none => .agg #[.int .i64 0, .int .i64 0, .int .i64 0]
  | some s => .agg #[.int .i64 s.lo, .int .i64 s.hi, .int .i64 s.v]
set_option maxRecDepth 100000 in
set_option maxHeartbeats 1000000 in
theorem newKV_calls (b : Nat) (s : Sp) (h m : Int) (l r : IT) (w : World) (hb : Blk w b (cellsI s h m l r) 178) :
    Calls Try.prog 103 #[.pointer (some ⟨b, 0, none⟩)] w fun e w' => e = .returned (kvOf (some s)) ∧ Fr [] w w' := by
  obtain ⟨⟨p0, p1, p2, p3, p4, p5, p6⟩, pf⟩ := node_cells hb
  have hl := hb.lt
  clear hb
  go_enter Try.func103, Try.ntmps103
  go_wp2_with fail
  have c0 := (World.cell?_alloc_lt w (Obj.cells #[.int .i64 0, .int .i64 0, .int .i64 0] 131) ⟨b, 0, none⟩ hl).trans p0
  have c1 := (World.cell?_alloc_lt w (Obj.cells #[.int .i64 0, .int .i64 0, .int .i64 0] 131) ⟨b, 1, none⟩ hl).trans p1
  have c2 := (World.cell?_alloc_lt w (Obj.cells #[.int .i64 0, .int .i64 0, .int .i64 0] 131) ⟨b, 2, none⟩ hl).trans p2
  have HB := Lib.hid (Blk.new w #[.int .i64 0, .int .i64 0, .int .i64 0] 131)
  have F1 := Fr.alloc [] w (Obj.cells #[.int .i64 0, .int .i64 0, .int .i64 0] 131)
  clear p0 p1 p2 p3 p4 p5 p6 pf
  generalize hw1 : w.alloc (Obj.cells #[.int .i64 0, .int .i64 0, .int .i64 0] 131) = w1 at *
  have y0 : w1.cell? ⟨w.heap.size, 0, none⟩ = some (.int .i64 0) := HB.out.cell 0
  have y1 : w1.cell? ⟨w.heap.size, 1, none⟩ = some (.int .i64 0) := HB.out.cell 1
  have y2 : w1.cell? ⟨w.heap.size, 2, none⟩ = some (.int .i64 0) := HB.out.cell 2
  have yf := HB.out.frozen
  have HW := Lib.hid hw1
  clear hw1
  go_still_tail 15, (by kernel_rfl)
  change wpList _ _ _ _ _ (w1.drewN 1)
  go_wp2_with fail
  have B1 := (((HB.out.drewN 1).set 0 (.int .i64 s.lo)).set 1 (.int .i64 s.hi)).set 2 (.int .i64 s.v)
  refine bodyPost_ret (results_cell rfl _ _ _ rfl (kv_load B1)) rfl ⟨rfl, ?_⟩
  have F2 := F1.comp (Fr.drewN [] w1 1)
  have F3 : Fr [w.heap.size] (w1.drewN 1) _ := ((Fr.setCell (w1.drewN 1) w.heap.size 0 (.int .i64 s.lo) (by simp)).comp (Fr.setCell _ w.heap.size 1 (.int .i64 s.hi) (by simp))).comp (Fr.setCell _ w.heap.size 2 (.int .i64 s.v) (by simp))
  exact F2.trans F3 (fun _ h => .inl h) (fun x hx => .inr (by rw [List.mem_singleton.1 hx]; omega))
/-- what insert leaves. -/
def InsPost (s : Sp) (ow : Bool) (t : IT) (w : World) (e : Ending) (w' : World) : Prop := ∃ nb, w.heap.size ≤ nb ∧ e = .returned (.tuple #[.pointer (t.ins s ow nb).ptr, kvOf (t.get s.lo), .bool (t.get s.lo).isSome]) ∧ (t.ins s ow nb).In w' ∧ Fr t.ids w w'
set_option maxRecDepth 100000 in
set_option maxHeartbeats 1000000 in
theorem ins_nil (s : Sp) (ow : Bool) (w : World) : Calls Try.prog 99 #[.pointer none, .agg #[.int .i64 s.lo, .int .i64 s.hi], .int .i64 s.v, .bool ow] w (InsPost s ow .nil w) := by
  go_enter Try.func99, Try.ntmps99
  go_wp2_with fail
  refine bodyPost_ret (v := .tuple #[.pointer (some ⟨w.heap.size + 1 + 1, 0, none⟩), kvOf none, .bool false]) (by simp [results, Try.results99, go_sem, kvOf]) rfl ⟨w.heap.size + 1 + 1, by omega, rfl, ⟨?_, trivial, trivial⟩, ((Fr.alloc _ _ _).comp (Fr.alloc _ _ _)).comp (Fr.alloc _ _ _)⟩
  have := Blk.new ((w.alloc (Obj.cells #[.int .i64 s.lo, .int .i64 s.hi] 170)).alloc (Obj.cells #[.int .i64 0, .int .i64 0, .int .i64 0] 131)) (cellsI s 1 s.hi .nil .nil) 178
  rwa [show ((w.alloc (Obj.cells #[.int .i64 s.lo, .int .i64 s.hi] 170)).alloc (Obj.cells #[.int .i64 0, .int .i64 0, .int .i64 0] 131)).heap.size = w.heap.size + 1 + 1 by simp] at this
/-- the three boxes of a call of insert. -/
theorem boxes (w : World) (lo hi : Int) : ∃ W, W = ((w.alloc (Obj.cells #[.int .i64 lo, .int .i64 hi] 170)).alloc (Obj.cells #[.int .i64 0, .int .i64 0, .int .i64 0] 131)).alloc (Obj.cells #[.int .i64 0, .int .i64 0, .int .i64 0] 131) ∧
    Fr [] w W ∧ Blk W w.heap.size #[.int .i64 lo, .int .i64 hi] 170 ∧ Blk W (w.heap.size + 1) #[.int .i64 0, .int .i64 0, .int .i64 0] 131 ∧ Blk W (w.heap.size + 1 + 1) #[.int .i64 0, .int .i64 0, .int .i64 0] 131 ∧ W.heap.size = w.heap.size + 1 + 1 + 1 := by
  refine ⟨_, rfl, ((Fr.alloc _ _ _).comp (Fr.alloc _ _ _)).comp (Fr.alloc _ _ _), ((Blk.new w _ _).alloc _).alloc _, ?_, ?_, by simp⟩
  · have := (Blk.new (w.alloc (Obj.cells #[.int .i64 lo, .int .i64 hi] 170)) #[.int .i64 0, .int .i64 0, .int .i64 0] 131).alloc (Obj.cells #[.int .i64 0, .int .i64 0, .int .i64 0] 131)
    rwa [show (w.alloc (Obj.cells #[.int .i64 lo, .int .i64 hi] 170)).heap.size = w.heap.size + 1 by simp] at this
  · have := Blk.new ((w.alloc (Obj.cells #[.int .i64 lo, .int .i64 hi] 170)).alloc (Obj.cells #[.int .i64 0, .int .i64 0, .int .i64 0] 131)) #[.int .i64 0, .int .i64 0, .int .i64 0] 131
    rwa [show ((w.alloc (Obj.cells #[.int .i64 lo, .int .i64 hi] 170)).alloc (Obj.cells #[.int .i64 0, .int .i64 0, .int .i64 0] 131)).heap.size = w.heap.size + 1 + 1 by simp] at this
theorem kv_form (o : Option Sp) : ∃ x y z : Int, kvOf o = .agg #[.int .i64 x, .int .i64 y, .int .i64 z] := by
  cases o with
  | none => exact ⟨0, 0, 0, rfl⟩
  | some s => exact ⟨s.lo, s.hi, s.v, rfl⟩
/-- ahead of rebalancing: T the tree, o what is told. -/
structure InsMid (t : IT) (T : Nat → IT) (x y z : Int) (w wx : World) : Prop where
  is : ∃ nb, w.heap.size + 1 + 1 + 1 ≤ nb ∧ (T nb).In wx ∧ (T nb).ids.Nodup ∧ Blk wx (w.heap.size + 1) #[.int .i64 0, .int .i64 0, .int .i64 0] 131 ∧ Blk wx (w.heap.size + 1 + 1) #[.int .i64 x, .int .i64 y, .int .i64 z] 131 ∧ Fr t.ids w wx ∧ (∀ i ∈ (T nb).ids, i ∈ t.ids ∨ i = nb)
theorem InsMid.drewN {t : IT} {T : Nat → IT} {x y z : Int} {w wx : World} (h : InsMid t T x y z w wx) (n : Nat) : InsMid t T x y z w (wx.drewN n) := by
  obtain ⟨nb, h1, h2, h3, h4, h5, h6, h7⟩ := h.is
  exact ⟨nb, h1, IT.In.drewN n h2, h3, h4, h5, h6.comp (Fr.drewN _ _ n), h7⟩
theorem grow_l {b nb : Nat} {s2 : Sp} {h m : Int} {l l' r : IT} (hp : l'.ids.Perm l.ids ∨ l'.ids.Perm (nb :: l.ids)) (hn : (IT.node b s2 h m l r).ids.Nodup) (hx : nb ∉ (IT.node b s2 h m l r).ids) :
    (IT.node b s2 h m l' r).ids.Nodup ∧ (∀ y ∈ (IT.node b s2 h m l' r).ids, y ∈ (IT.node b s2 h m l r).ids ∨ y = nb) ∧ b ∉ l'.ids := by
  simp only [IT.ids] at *
  have hm : ∀ y ∈ l'.ids, y ∈ l.ids ∨ y = nb := by
    intro y hy
    rcases hp with hp | hp
    · exact .inl (hp.mem_iff.1 hy)
    · exact (List.mem_cons.1 (hp.mem_iff.1 hy)).symm
  have hnl : l'.ids.Nodup := by
    rcases hp with hp | hp
    · rw [hp.nodup_iff]; grind
    · rw [hp.nodup_iff]; grind
  clear hp
  grind
theorem grow_r {b nb : Nat} {s2 : Sp} {h m : Int} {l r' r : IT} (hp : r'.ids.Perm r.ids ∨ r'.ids.Perm (nb :: r.ids)) (hn : (IT.node b s2 h m l r).ids.Nodup) (hx : nb ∉ (IT.node b s2 h m l r).ids) :
    (IT.node b s2 h m l r').ids.Nodup ∧ (∀ y ∈ (IT.node b s2 h m l r').ids, y ∈ (IT.node b s2 h m l r).ids ∨ y = nb) ∧ b ∉ r'.ids := by
  simp only [IT.ids] at *
  have hm : ∀ y ∈ r'.ids, y ∈ r.ids ∨ y = nb := by
    intro y hy
    rcases hp with hp | hp
    · exact .inl (hp.mem_iff.1 hy)
    · exact (List.mem_cons.1 (hp.mem_iff.1 hy)).symm
  have hnl : r'.ids.Nodup := by
    rcases hp with hp | hp
    · rw [hp.nodup_iff]; grind
    · rw [hp.nodup_iff]; grind
  clear hp
  grind
theorem grow_len {l l' : IT} {nb : Nat} (hp : l'.ids.Perm l.ids ∨ l'.ids.Perm (nb :: l.ids)) : l'.ids.length ≤ l.ids.length + 1 := by
  rcases hp with hp | hp
  · rw [hp.length_eq]; omega
  · rw [hp.length_eq, List.length_cons]; omega
theorem IT.Rt.hb : ∀ {t : IT}, t.Rt → t.ids.length ≤ 20000000000 → t.Hb
  | .nil, _, _ => trivial
  | .node b s h m l r, ok, hs => by
    have h0 := IT.Rt.ht0 ok
    have h1 := IT.Rt.size ok
    rw [ht_node] at h0 h1
    simp only [IT.ids, List.length_cons, List.length_append] at hs h1
    exact ⟨⟨h0, by omega⟩, IT.Rt.hb ok.2.1 (by omega), IT.Rt.hb ok.2.2 (by omega)⟩
theorem InsMid.mk3 {t : IT} {T : Nat → IT} {x y z : Int} {w w3 : World} (nb : Nat) (h0 : w.heap.size + 1 + 1 + 1 ≤ nb) (ht : ∀ i ∈ t.ids, i < w.heap.size) (h3 : (T nb).In w3) (hn : (T nb).ids.Nodup) (hi : ∀ i ∈ (T nb).ids, i ∈ t.ids ∨ i = nb)
    (V3 : Blk w3 (w.heap.size + 1) #[.int .i64 0, .int .i64 0, .int .i64 0] 131) (X3 : Blk w3 (w.heap.size + 1 + 1) #[.int .i64 0, .int .i64 0, .int .i64 0] 131) (F3 : Fr t.ids w w3) :
    InsMid t T x y z w (((w3.setCell ⟨w.heap.size + 1 + 1, 0, none⟩ (.int .i64 x)).setCell ⟨w.heap.size + 1 + 1, 1, none⟩ (.int .i64 y)).setCell ⟨w.heap.size + 1 + 1, 2, none⟩ (.int .i64 z)) := by
  have f4 : Fr [w.heap.size + 1 + 1] w3 (((w3.setCell ⟨w.heap.size + 1 + 1, 0, none⟩ (.int .i64 x)).setCell ⟨w.heap.size + 1 + 1, 1, none⟩ (.int .i64 y)).setCell ⟨w.heap.size + 1 + 1, 2, none⟩ (.int .i64 z)) :=
    ((Fr.setCell _ _ 0 _ (by simp)).comp (Fr.setCell _ _ 1 _ (by simp))).comp (Fr.setCell _ _ 2 _ (by simp))
  refine ⟨nb, by omega, IT.In.fr f4 h3 (fun i hx e => ?_), hn, V3.fr f4 (by simp), ((X3.set 0 _).set 1 _).set 2 _, F3.trans f4 (fun _ h => .inl h) (fun i hx => .inr (by rw [List.mem_singleton.1 hx]; omega)), hi⟩
  rw [List.mem_singleton.1 e] at hx
  rcases hi _ hx with h | h
  · have := ht _ h; omega
  · omega
/-- what the boxes and the tree are behind a call on a part. -/
theorem part_frame {w W w2 : World} {S : List Nat} (hS : ∀ i ∈ S, i < w.heap.size) (hz : w.heap.size + 1 + 1 + 1 ≤ W.heap.size) (hf : Fr S W w2) : ∀ k, w.heap.size ≤ k → k < w.heap.size + 1 + 1 + 1 → w2.heap[k]? = W.heap[k]? :=
  fun k h1 h2 => hf.block k (by omega) (fun hk => by have := hS k hk; omega)
set_option maxRecDepth 100000 in
set_option maxHeartbeats 3200000 in
theorem ins_eq (s : Sp) (ow : Bool) (b : Nat) (s2 : Sp) (h m : Int) (l r : IT) (w : World) (hi : (IT.node b s2 h m l r).In w) (hn : (IT.node b s2 h m l r).ids.Nodup) (rt : (IT.node b s2 h m l r).Rt) (hs : (IT.node b s2 h m l r).ids.length ≤ 20000000000) (c1 : ¬ s.lo < s2.lo) (c2 : ¬ s2.lo < s.lo) :
    Calls Try.prog 99 #[.pointer (some ⟨b, 0, none⟩), .agg #[.int .i64 s.lo, .int .i64 s.hi], .int .i64 s.v, .bool ow] w (InsPost s ow (.node b s2 h m l r) w) := by
  have HI := Lib.hid hi
  have HN := Lib.hid hn
  have HR := Lib.hid rt
  have bl := hi.1.lt
  have nb : b ∉ l.ids ∧ b ∉ r.ids := by simp only [IT.ids] at hn; grind
  simp only [IT.ids, List.length_cons, List.length_append] at hs
  obtain ⟨W, hW, F0, K0, V0, X0, Z0⟩ := boxes w s.lo s.hi
  have I0 := IT.In.fr F0 hi (fun _ _ => by simp)
  obtain ⟨⟨p0, p1, p2, p3, p4, p5, p6⟩, pf⟩ := node_cells I0.1
  have k0 : W.cell? ⟨w.heap.size, 0, none⟩ = some (.int .i64 s.lo) := K0.cell 0
  have k1 : W.cell? ⟨w.heap.size, 1, none⟩ = some (.int .i64 s.hi) := K0.cell 1
  have HF := Lib.hid (And.intro F0 (And.intro K0 (And.intro V0 (And.intro X0 I0))))
  clear hi hn rt F0 K0 V0 X0 I0
  have e : (IT.node b s2 h m l r).get s.lo = some s2 := by simp only [IT.get]; rw [if_neg c1, if_neg c2]
  have HE := Lib.hid e
  clear e
  cases ow with
  | false =>
    have e2 := fun nb => (show (IT.node b s2 h m l r).ins s false nb = .node b s2 h m l r by simp only [IT.ins]; rw [if_neg c1, if_neg c2]; rfl)
    have HE2 := Lib.hid e2
    clear e2
    go_enter Try.func99, Try.ntmps99
    go_wp2_with fail
    rw [← hW]
    have HW := Lib.hid (And.intro hW Z0)
    clear hW Z0
    go_quiet (fail)
    obtain ⟨na, hna⟩ : ∃ na, na = nq := ⟨_, rfl⟩
    rw [← hna]
    clear hna
    go_wp2_with fail
    go_quiet (fail)
    rw [World.drewN_drewN]
    obtain ⟨nz, hnz⟩ : ∃ nz, nz = na + nq := ⟨_, rfl⟩
    rw [← hnz]
    clear hnz
    have HI1 := Lib.hid (IT.In.drewN nz HF.out.2.2.2.2)
    have V1 := HF.out.2.2.1.drewN nz
    have v0 : (W.drewN nz).cell? ⟨w.heap.size + 1, 0, none⟩ = some (.int .i64 0) := V1.cell 0
    go_wp2_with fail
    refine (newKV_calls b s2 h m l r _ HI1.out.1).mono ?_
    rintro e w1 ⟨rfl, f1⟩
    have V2 := V1.fr f1 (by simp)
    have v0 : w1.cell? ⟨w.heap.size + 1, 0, none⟩ = some (.int .i64 0) := V2.cell 0
    have v1 : w1.cell? ⟨w.heap.size + 1, 1, none⟩ = some (.int .i64 0) := V2.cell 1
    have v2 : w1.cell? ⟨w.heap.size + 1, 2, none⟩ = some (.int .i64 0) := V2.cell 2
    have vf := V2.frozen
    simp only [kvOf]
    go_wp2_with fail
    refine bodyPost_ret (v := .tuple #[.pointer (some ⟨b, 0, none⟩), .agg #[.int .i64 s2.lo, .int .i64 s2.hi, .int .i64 s2.v], .bool true]) (by simp [results, Try.results99, go_sem, v0, v1, v2]) rfl ?_
    have f4 : Fr [w.heap.size + 1] w1 (((w1.setCell ⟨w.heap.size + 1, 0, none⟩ (.int .i64 s2.lo)).setCell ⟨w.heap.size + 1, 1, none⟩ (.int .i64 s2.hi)).setCell ⟨w.heap.size + 1, 2, none⟩ (.int .i64 s2.v)) :=
      ((Fr.setCell _ _ 0 _ (by simp)).comp (Fr.setCell _ _ 1 _ (by simp))).comp (Fr.setCell _ _ 2 _ (by simp))
    have fz : Fr [] w w1 := (HF.out.1.comp (Fr.drewN _ _ nz)).comp f1
    refine ⟨w.heap.size, Nat.le_refl _, by rw [HE.out, HE2.out]; rfl, ?_, (fz.mono (by simp)).trans f4 (fun _ h => .inl h) (fun i hx => .inr (by rw [List.mem_singleton.1 hx]; omega))⟩
    rw [HE2.out]
    exact IT.In.fr f4 (IT.In.fr f1 HI1.out (by simp)) (fun i hi e => by rw [List.mem_singleton.1 e] at hi; have := IT.In.lt HI.out _ hi; omega)
  | true =>
    have e2 := fun nb => (show (IT.node b s2 h m l r).ins s true nb = reb (.node b s h m l r) by simp only [IT.ins]; rw [if_neg c1, if_neg c2]; rfl)
    have HE2 := Lib.hid e2
    clear e2
    go_enter Try.func99, Try.ntmps99
    go_wp2_with fail
    rw [← hW]
    have HW := Lib.hid (And.intro hW Z0)
    clear hW Z0
    go_quiet (fail)
    obtain ⟨na, hna⟩ : ∃ na, na = nq := ⟨_, rfl⟩
    rw [← hna]
    clear hna
    go_wp2_with fail
    go_quiet (fail)
    rw [World.drewN_drewN]
    obtain ⟨nz, hnz⟩ : ∃ nz, nz = na + nq := ⟨_, rfl⟩
    rw [← hnz]
    clear hnz
    have HI1 := Lib.hid (IT.In.drewN nz HF.out.2.2.2.2)
    have X1 := HF.out.2.2.2.1.drewN nz
    have V1 := HF.out.2.2.1.drewN nz
    have K1 := HF.out.2.1.drewN nz
    clear p0 p1 p2 p3 p4 p5 p6 pf k0 k1
    go_wp2_with fail
    refine (newKV_calls b s2 h m l r _ HI1.out.1).mono ?_
    rintro e w1 ⟨rfl, f1⟩
    have X2 := X1.fr f1 (by simp)
    have V2 := V1.fr f1 (by simp)
    have K2 := K1.fr f1 (by simp)
    have I2 := IT.In.fr f1 HI1.out (by simp)
    have x0 : w1.cell? ⟨w.heap.size + 1 + 1, 0, none⟩ = some (.int .i64 0) := X2.cell 0
    have x1 : w1.cell? ⟨w.heap.size + 1 + 1, 1, none⟩ = some (.int .i64 0) := X2.cell 1
    have x2 : w1.cell? ⟨w.heap.size + 1 + 1, 2, none⟩ = some (.int .i64 0) := X2.cell 2
    have xf := X2.frozen
    have k0 : w1.cell? ⟨w.heap.size, 0, none⟩ = some (.int .i64 s.lo) := K2.cell 0
    have k1 : w1.cell? ⟨w.heap.size, 1, none⟩ = some (.int .i64 s.hi) := K2.cell 1
    obtain ⟨⟨p0, p1, p2, p3, p4, p5, p6⟩, pf⟩ := node_cells I2.1
    have hbx : ¬ b = w.heap.size + 1 + 1 := by omega
    have hbx' : ¬ w.heap.size + 1 + 1 = b := by omega
    have hbk : ¬ b = w.heap.size := by omega
    have hbk' : ¬ w.heap.size = b := by omega
    have fz : Fr [] w w1 := (HF.out.1.comp (Fr.drewN _ _ nz)).comp f1
    have H2 := Lib.hid (And.intro X2 (And.intro V2 (And.intro I2 fz)))
    clear X1 V1 K1 X2 V2 K2 I2 fz f1
    simp only [kvOf]
    go_wp2_with fail
    obtain ⟨X2, V2, I2, fz⟩ := H2.out
    have X3 := ((X2.set 0 (.int .i64 s2.lo)).set 1 (.int .i64 s2.hi)).set 2 (.int .i64 s2.v)
    have f3 : Fr [w.heap.size + 1 + 1] w1 (((w1.setCell ⟨w.heap.size + 1 + 1, 0, none⟩ (.int .i64 s2.lo)).setCell ⟨w.heap.size + 1 + 1, 1, none⟩ (.int .i64 s2.hi)).setCell ⟨w.heap.size + 1 + 1, 2, none⟩ (.int .i64 s2.v)) :=
      ((Fr.setCell _ _ 0 _ (by simp)).comp (Fr.setCell _ _ 1 _ (by simp))).comp (Fr.setCell _ _ 2 _ (by simp))
    have I3 := IT.In.fr f3 I2 (fun i hi e => by rw [List.mem_singleton.1 e] at hi; have := IT.In.lt HI.out _ hi; omega)
    have V3 := V2.fr f3 (by simp)
    generalize (((w1.setCell ⟨w.heap.size + 1 + 1, 0, none⟩ (.int .i64 s2.lo)).setCell ⟨w.heap.size + 1 + 1, 1, none⟩ (.int .i64 s2.hi)).setCell ⟨w.heap.size + 1 + 1, 2, none⟩ (.int .i64 s2.v)) = w3 at *
    have f4 : Fr [b] w3 (((w3.setCell ⟨b, 0, none⟩ (.int .i64 s.lo)).setCell ⟨b, 1, none⟩ (.int .i64 s.hi)).setCell ⟨b, 2, none⟩ (.int .i64 s.v)) :=
      ((Fr.setCell _ _ 0 _ (by simp)).comp (Fr.setCell _ _ 1 _ (by simp))).comp (Fr.setCell _ _ 2 _ (by simp))
    have B4 : Blk (((w3.setCell ⟨b, 0, none⟩ (.int .i64 s.lo)).setCell ⟨b, 1, none⟩ (.int .i64 s.hi)).setCell ⟨b, 2, none⟩ (.int .i64 s.v)) b (cellsI s h m l r) 178 := ((I3.1.set 0 _).set 1 _).set 2 _
    have X := X3.fr f4 (by simpa using hbx')
    have V := V3.fr f4 (by simp; omega)
    have L4 := IT.In.fr f4 I3.2.1 (fun i hi e => nb.1 (by rw [← List.mem_singleton.1 e]; exact hi))
    have R4 := IT.In.fr f4 I3.2.2 (fun i hi e => nb.2 (by rw [← List.mem_singleton.1 e]; exact hi))
    have F4 : Fr (IT.node b s2 h m l r).ids w (((w3.setCell ⟨b, 0, none⟩ (.int .i64 s.lo)).setCell ⟨b, 1, none⟩ (.int .i64 s.hi)).setCell ⟨b, 2, none⟩ (.int .i64 s.v)) :=
      ((fz.mono (by simp)).trans f3 (fun _ h => .inl h) (fun i hx => .inr (by rw [List.mem_singleton.1 hx]; omega))).comp (f4.mono (fun i hx => .inl (by rw [List.mem_singleton.1 hx]; simp [IT.ids])))
    generalize (((w3.setCell ⟨b, 0, none⟩ (.int .i64 s.lo)).setCell ⟨b, 1, none⟩ (.int .i64 s.hi)).setCell ⟨b, 2, none⟩ (.int .i64 s.v)) = wc at *
    have hne : ∀ k, w.heap.size + 1 ≤ k → k ≤ w.heap.size + 1 + 1 → k ∉ (IT.node b s h m l r).ids := fun k k1 k2 hx => by
      have := IT.In.lt HI.out _ hx; omega
    have hbl := IT.Rt.hb HR.out.2.1 (by omega)
    have hbr := IT.Rt.hb HR.out.2.2 (by omega)
    have HT := Lib.hid (And.intro (And.intro B4 (And.intro L4 R4)) (And.intro V (And.intro X F4)))
    have HB := Lib.hid (And.intro hbl (And.intro hbr hne))
    clear X3 f3 I3 V3 f4 B4 L4 R4 V F4 X2 V2 I2 fz x0 x1 x2 xf k0 k1 p0 p1 p2 p3 p4 p5 p6 pf hbl hbr hne H2
    have x0 : wc.cell? ⟨w.heap.size + 1 + 1, 0, none⟩ = some (.int .i64 s2.lo) := X.cell 0
    have x1 : wc.cell? ⟨w.heap.size + 1 + 1, 1, none⟩ = some (.int .i64 s2.hi) := X.cell 1
    have x2 : wc.cell? ⟨w.heap.size + 1 + 1, 2, none⟩ = some (.int .i64 s2.v) := X.cell 2
    clear X
    go_region_with (go_at_call 119; refine (reb_calls b s h m l r _ (by exact IT.In.drewN (t := IT.node b s h m l r) 1 HT.out.1) HN.out HB.out.1 HB.out.2.1).mono ?_; rintro e w2 ⟨rfl, ht⟩; have X2 := (HT.out.2.2.1.drewN 1).fr ht.frame (HB.out.2.2 _ (by omega) (by omega)); have V2 := (HT.out.2.1.drewN 1).fr ht.frame (HB.out.2.2 _ (by omega) (by omega)); have y0 := X2.cell 0; have y1 := X2.cell 1; have y2 := X2.cell 2; have v0 := V2.cell 0; have v1 := V2.cell 1; have v2 := V2.cell 2; have vf := V2.frozen; simp only [List.getElem?_toArray, List.getElem?_cons_succ, List.getElem?_cons_zero] at y0 y1 y2 v0 v1 v2)
    all_goals
      go_wp2_with fail
      refine bodyPost_ret (v := .tuple #[.pointer (reb (IT.node b s h m l r)).ptr, .agg #[.int .i64 s2.lo, .int .i64 s2.hi, .int .i64 s2.v], .bool true]) (by simp [results, Try.results99, go_sem, v0, v1, v2]) rfl ?_
      have F9 : Fr (IT.node b s2 h m l r).ids w w2 := (HT.out.2.2.2.comp (Fr.drewN _ wc 1)).comp ht.frame
      have f4 : Fr [w.heap.size + 1] w2 (((w2.setCell ⟨w.heap.size + 1, 0, none⟩ (.int .i64 s2.lo)).setCell ⟨w.heap.size + 1, 1, none⟩ (.int .i64 s2.hi)).setCell ⟨w.heap.size + 1, 2, none⟩ (.int .i64 s2.v)) :=
        ((Fr.setCell _ _ 0 _ (by simp)).comp (Fr.setCell _ _ 1 _ (by simp))).comp (Fr.setCell _ _ 2 _ (by simp))
      refine ⟨w.heap.size, Nat.le_refl _, by rw [HE.out, HE2.out]; rfl, ?_, F9.trans f4 (fun _ h => .inl h) (fun i hx => .inr (by rw [List.mem_singleton.1 hx]; omega))⟩
      rw [HE2.out]
      exact IT.In.fr f4 ht.lies (fun i hi e => HB.out.2.2 (w.heap.size + 1) (by omega) (by omega) (by rw [List.mem_singleton.1 e] at hi; exact (reb_ids _).mem_iff.1 hi))
end Go.Proofs.Ytomclflknjkhfaa
