/- interval trees in memory: remove. -/
import Derived.Test.YtomclflknjkhfaaItv4
namespace Go.Proofs.Ytomclflknjkhfaa
open Go.RowKit ItP

theorem boxes2 (w : World) : ∃ W, W = (w.alloc (Obj.cells #[.int .i64 0, .int .i64 0, .int .i64 0] 131)).alloc (Obj.cells #[.int .i64 0, .int .i64 0, .int .i64 0] 131) ∧
    Fr [] w W ∧ Blk W w.heap.size #[.int .i64 0, .int .i64 0, .int .i64 0] 131 ∧ Blk W (w.heap.size + 1) #[.int .i64 0, .int .i64 0, .int .i64 0] 131 ∧ W.heap.size = w.heap.size + 1 + 1 := by
  refine ⟨_, rfl, (Fr.alloc _ _ _).comp (Fr.alloc _ _ _), (Blk.new w _ _).alloc _, ?_, by simp⟩
  have := Blk.new (w.alloc (Obj.cells #[.int .i64 0, .int .i64 0, .int .i64 0] 131)) #[.int .i64 0, .int .i64 0, .int .i64 0] 131
  rwa [show (w.alloc (Obj.cells #[.int .i64 0, .int .i64 0, .int .i64 0] 131)).heap.size = w.heap.size + 1 by simp] at this
/-- rebalanceTree of a tree, nil or not. -/
theorem reb_any (t : IT) (w : World) (hi : t.In w) (hn : t.ids.Nodup) (hb : t.Hb) :
    Calls Try.prog 119 #[.pointer t.ptr] w fun e w' => e = .returned (.pointer (reb t).ptr) ∧ Turned w w' t (reb t) := by
  cases t with
  | nil =>
    show Calls _ _ #[.pointer none] _ _
    go_enter Try.func119, Try.ntmps119
    go_wp2
    go_ret
    exact ⟨rfl, trivial, Fr.refl _ _⟩
  | node b s h m l r => exact reb_calls b s h m l r w hi hn hb.2.1 hb.2.2
/-- ahead of rebalancing: T the tree, x y z what is told. -/
structure RemMid (t T : IT) (x y z : Int) (w wx : World) : Prop where
  lies : T.In wx
  nd : T.ids.Nodup
  hb : T.Hb
  v : Blk wx w.heap.size #[.int .i64 0, .int .i64 0, .int .i64 0] 131
  x : Blk wx (w.heap.size + 1) #[.int .i64 x, .int .i64 y, .int .i64 z] 131
  fr : Fr t.ids w wx
  sub : ∀ i ∈ T.ids, i ∈ t.ids
theorem RemMid.mk2 {t T : IT} {x y z : Int} {w w3 : World} (ht : ∀ i ∈ t.ids, i < w.heap.size) (h3 : T.In w3) (hn : T.ids.Nodup) (hb : T.Hb) (hi : ∀ i ∈ T.ids, i ∈ t.ids)
    (V3 : Blk w3 w.heap.size #[.int .i64 0, .int .i64 0, .int .i64 0] 131) (X3 : Blk w3 (w.heap.size + 1) #[.int .i64 0, .int .i64 0, .int .i64 0] 131) (F3 : Fr t.ids w w3) :
    RemMid t T x y z w (((w3.setCell ⟨w.heap.size + 1, 0, none⟩ (.int .i64 x)).setCell ⟨w.heap.size + 1, 1, none⟩ (.int .i64 y)).setCell ⟨w.heap.size + 1, 2, none⟩ (.int .i64 z)) := by
  have f4 : Fr [w.heap.size + 1] w3 (((w3.setCell ⟨w.heap.size + 1, 0, none⟩ (.int .i64 x)).setCell ⟨w.heap.size + 1, 1, none⟩ (.int .i64 y)).setCell ⟨w.heap.size + 1, 2, none⟩ (.int .i64 z)) :=
    ((Fr.setCell _ _ 0 _ (by simp)).comp (Fr.setCell _ _ 1 _ (by simp))).comp (Fr.setCell _ _ 2 _ (by simp))
  refine ⟨IT.In.fr f4 h3 (fun i hx e => ?_), hn, hb, V3.fr f4 (by simp), ((X3.set 0 _).set 1 _).set 2 _, F3.trans f4 (fun _ h => .inl h) (fun i hx => .inr (by rw [List.mem_singleton.1 hx]; omega)), hi⟩
  rw [List.mem_singleton.1 e] at hx
  have := ht _ (hi _ hx); omega
theorem RemMid.drewN {t T : IT} {x y z : Int} {w wx : World} (h : RemMid t T x y z w wx) (n : Nat) : RemMid t T x y z w (wx.drewN n) := ⟨IT.In.drewN n h.lies, h.nd, h.hb, h.v, h.x, h.fr.comp (Fr.drewN _ _ n), h.sub⟩
/-- the last step: rebalanced, and told. -/
theorem RemMid.done {t T : IT} {x y z : Int} {w wx w2 : World} (h : RemMid t T x y z w wx) (ht : ∀ i ∈ t.ids, i < w.heap.size) (hT : Turned (wx.drewN 1) w2 T (reb T)) :
    (reb T).In (((w2.setCell ⟨w.heap.size, 0, none⟩ (.int .i64 x)).setCell ⟨w.heap.size, 1, none⟩ (.int .i64 y)).setCell ⟨w.heap.size, 2, none⟩ (.int .i64 z)) ∧ Fr t.ids w (((w2.setCell ⟨w.heap.size, 0, none⟩ (.int .i64 x)).setCell ⟨w.heap.size, 1, none⟩ (.int .i64 y)).setCell ⟨w.heap.size, 2, none⟩ (.int .i64 z)) := by
  have f4 : Fr [w.heap.size] w2 (((w2.setCell ⟨w.heap.size, 0, none⟩ (.int .i64 x)).setCell ⟨w.heap.size, 1, none⟩ (.int .i64 y)).setCell ⟨w.heap.size, 2, none⟩ (.int .i64 z)) :=
    ((Fr.setCell _ _ 0 _ (by simp)).comp (Fr.setCell _ _ 1 _ (by simp))).comp (Fr.setCell _ _ 2 _ (by simp))
  have F9 : Fr t.ids w w2 := (h.fr.comp (Fr.drewN _ wx 1)).trans hT.frame (fun _ h => .inl h) (fun i hi => .inl (h.sub i hi))
  refine ⟨IT.In.fr f4 hT.lies (fun i hi e => ?_), F9.trans f4 (fun _ h => .inl h) (fun i hx => .inr (by rw [List.mem_singleton.1 hx]; omega))⟩
  rw [List.mem_singleton.1 e] at hi
  have := ht _ (h.sub _ ((reb_ids _).mem_iff.1 hi)); omega
theorem RemMid.after {t T : IT} {x y z : Int} {w wx w2 : World} (h : RemMid t T x y z w wx) (ht : ∀ i ∈ t.ids, i < w.heap.size) (hT : Turned (wx.drewN 1) w2 T (reb T)) :
    Blk w2 w.heap.size #[.int .i64 0, .int .i64 0, .int .i64 0] 131 ∧ Blk w2 (w.heap.size + 1) #[.int .i64 x, .int .i64 y, .int .i64 z] 131 :=
  ⟨(h.v.drewN 1).fr hT.frame (fun hi => by have := ht _ (h.sub _ hi); omega), (h.x.drewN 1).fr hT.frame (fun hi => by have := ht _ (h.sub _ hi); omega)⟩
theorem top_facts (b : Nat) (s : Sp) (h m : Int) (l r : IT) (hn : (IT.node b s h m l r).ids.Nodup) (hr : (IT.node b s h m l r).Rt) (hl : l.ids.length + r.ids.length + 1 ≤ 10000000000) :
    (remTop b h m l r).ids.Nodup ∧ (∀ i ∈ (remTop b h m l r).ids, i ∈ (IT.node b s h m l r).ids) ∧ (remTop b h m l r).Hb := by
  have h0 := IT.Rt.hb hr (by simp only [IT.ids, List.length_cons, List.length_append]; omega)
  have nd : b ∉ l.ids ∧ b ∉ r.ids ∧ l.ids.Nodup ∧ r.ids.Nodup ∧ (∀ i ∈ l.ids, i ∉ r.ids) := by simp only [IT.ids] at hn; grind
  unfold remTop
  split
  · exact ⟨nd.2.2.2.1, fun i hi => by simp [IT.ids, hi], h0.2.2⟩
  · exact ⟨nd.2.2.1, fun i hi => by simp [IT.ids, hi], h0.2.1⟩
  · rename_i hx hy
    obtain ⟨rs1, rs2, rs3⟩ := rem_sub (t := r) (lo := r.least.2.lo) nd.2.2.2.1
    refine ⟨?_, ?_, h0.1, h0.2.1, IT.Rt.hb (rem_rt r.sz r _ (Nat.le_refl _) hr.2.2) (by omega)⟩
    · simp only [IT.ids]
      obtain ⟨a1, a2, a3, a4, a5⟩ := nd
      grind
    · simp only [IT.ids]
      grind
theorem this_calls (b : Nat) (s : Sp) (h m : Int) (l r : IT) (w : World) (hi : (IT.node b s h m l r).In w) (hn : (IT.node b s h m l r).ids.Nodup)
    (ih : ∀ (lo : Int) (w' : World), r.In w' → Calls Try.prog 101 #[.pointer r.ptr, .int .i64 lo] w' (RemPost lo r w')) :
    Calls Try.prog 120 #[.pointer (some ⟨b, 0, none⟩)] w (TopPost b h m l r w) := by
  rcases l with _ | ⟨bl, sl, hl, ml, ll, rl⟩
  · exact top_nil b s h m _ r w hi (.inl rfl)
  · rcases r with _ | ⟨br, sr, hr, mr, lr, rr⟩
    · exact top_nil b s h m _ _ w hi (.inr rfl)
    · exact top_two b s h m bl sl hl ml ll rl br sr hr mr lr rr w hi hn ih
set_option maxRecDepth 100000 in
set_option maxHeartbeats 6400000 in
theorem rem_calls (n : Nat) : ∀ t : IT, t.sz ≤ n → ∀ (lo : Int) (w : World), t.In w → t.ids.Nodup → t.Rt → t.ids.length ≤ 10000000000 →
    Calls Try.prog 101 #[.pointer t.ptr, .int .i64 lo] w (RemPost lo t w) := by
  induction n with
  | zero =>
    intro t hs lo w _ _ _ _
    cases t with
    | nil => exact rem_nil lo w
    | node => simp [IT.sz] at hs
  | succ n ih =>
    intro t hs lo w hi hn rt hl
    cases t with
    | nil => exact rem_nil lo w
    | node b s h m l r =>
      simp only [IT.sz] at hs
      have HI := Lib.hid hi
      have HN := Lib.hid hn
      have HR := Lib.hid rt
      have bl := hi.1.lt
      have nb : b ∉ l.ids ∧ b ∉ r.ids := by simp only [IT.ids] at hn; grind
      have nd : l.ids.Nodup ∧ r.ids.Nodup := by simp only [IT.ids] at hn; grind
      have dis : ∀ i, i ∈ l.ids → i ∉ r.ids := by simp only [IT.ids] at hn; grind
      simp only [IT.ids, List.length_cons, List.length_append] at hl
      show Calls _ _ #[.pointer (some ⟨b, 0, none⟩), _] _ _
      obtain ⟨W, hW, F0, V0, X0, Z0⟩ := boxes2 w
      have I0 := IT.In.fr F0 hi (fun _ _ => by simp)
      obtain ⟨⟨p0, p1, p2, p3, p4, p5, p6⟩, pf⟩ := node_cells hi.1
      have HF := Lib.hid (And.intro F0 (And.intro V0 (And.intro X0 I0)))
      clear hi hn rt F0 V0 X0 I0
      by_cases c1 : lo < s.lo
      · have IH := Lib.hid (fun w' (hi' : l.In w') => ih l (by omega) lo w' hi' nd.1 HR.out.2.1 (by omega))
        have e : (IT.node b s h m l r).get lo = l.get lo := by simp only [IT.get]; rw [if_pos c1]
        have e2 : (IT.node b s h m l r).rem lo = reb (.node b s h m (l.rem lo) r) := by rw [rem_node, if_pos c1]
        have HE := Lib.hid (And.intro e2 e)
        clear ih e e2
        obtain ⟨x, y, z, hk⟩ := kv_form (l.get lo)
        have HKV := Lib.hid hk
        obtain ⟨rs1, rs2, rs3⟩ := rem_sub (t := l) (lo := lo) nd.1
        have HRS := Lib.hid (And.intro rs1 (And.intro rs2 rs3))
        have hbx : ¬ b = w.heap.size + 1 := by omega
        have hbx' : ¬ w.heap.size + 1 = b := by omega
        clear hk rs1 rs2 rs3
        go_enter Try.func101, Try.ntmps101
        go_wp2_with fail
        rw [← hW]
        refine (IH.out _ HF.out.2.2.2.2.1).mono ?_
        rintro e w2 ⟨rfl, hin, hfr⟩
        rw [HKV.out]
        have B2 := HF.out.2.2.2.1.fr hfr nb.1
        have X2 := HF.out.2.2.1.fr hfr (fun hx => by have := IT.In.lt HI.out (w.heap.size + 1) (by simp only [IT.ids]; grind); omega)
        have V2 := HF.out.2.1.fr hfr (fun hx => by have := IT.In.lt HI.out w.heap.size (by simp only [IT.ids]; grind); omega)
        have y0 := X2.cell 0
        have y1 := X2.cell 1
        have y2 := X2.cell 2
        have yf := X2.frozen
        have c4 := B2.cell 4
        have cf := B2.frozen
        simp only [cellsI, List.getElem?_toArray, List.getElem?_cons_succ, List.getElem?_cons_zero] at y0 y1 y2 c4
        have B3 := set_l B2 (l.rem lo) _ rfl
        have O3 := IT.In.set (IT.In.fr hfr HF.out.2.2.2.2.2 (fun i h1 h2 => dis i h2 h1)) 4 (.pointer (l.rem lo).ptr) nb.2
        have T3 := IT.In.set hin 4 (.pointer (l.rem lo).ptr) (fun hx => nb.1 (HRS.out.2.1 _ hx))
        have F3 : Fr (IT.node b s h m l r).ids w (w2.setCell ⟨b, 4, none⟩ (.pointer (l.rem lo).ptr)) := (HF.out.1.trans hfr (by simp) (fun i hx => .inl (by simp only [IT.ids]; grind))).comp (Fr.setCell _ b 4 _ (by simp [IT.ids]))
        have hn3 : (IT.node b s h m (l.rem lo) r).ids.Nodup := by
          have h1 := HN.out
          have h2 := HRS.out.1
          have h3 := HRS.out.2.1
          simp only [IT.ids] at h1 ⊢
          grind
        have hs3 : ∀ i ∈ (IT.node b s h m (l.rem lo) r).ids, i ∈ (IT.node b s h m l r).ids := by
          have h3 := HRS.out.2.1
          simp only [IT.ids]
          grind
        have hrt := rem_rt l.sz l lo (Nat.le_refl _) HR.out.2.1
        have hb3 : (IT.node b s h m (l.rem lo) r).Hb := by
          have h0 := IT.Rt.hb HR.out (by simp only [IT.ids, List.length_cons, List.length_append]; omega)
          have h1 := IT.Rt.hb hrt (by have := HRS.out.2.2; omega)
          exact ⟨h0.1, h1, h0.2.2⟩
        have HM := RemMid.mk2 (x := x) (y := y) (z := z) (IT.In.lt HI.out) (T := IT.node b s h m (l.rem lo) r) ⟨B3, T3, O3⟩ hn3 hb3 hs3 (V2.far (by omega)) (X2.far (Ne.symm hbx)) F3
        clear B2 X2 V2 B3 O3 T3 F3 hn3 hs3 hrt hb3 hin hfr p0 p1 p2 p3 p4 p5 p6 pf
        have HM0 := Lib.hid HM
        clear HM
        go_wp2_with fail
        have HM := HM0.out
        clear y0 y1 y2 yf c4 cf HM0
        generalize ((((w2.setCell ⟨b, 4, none⟩ (.pointer (l.rem lo).ptr)).setCell ⟨w.heap.size + 1, 0, none⟩ (.int .i64 x)).setCell ⟨w.heap.size + 1, 1, none⟩ (.int .i64 y)).setCell ⟨w.heap.size + 1, 2, none⟩ (.int .i64 z)) = wc at *
        have HT := Lib.hid HM
        have x0 : wc.cell? ⟨w.heap.size + 1, 0, none⟩ = some (.int .i64 x) := HM.x.cell 0
        have x1 : wc.cell? ⟨w.heap.size + 1, 1, none⟩ = some (.int .i64 y) := HM.x.cell 1
        have x2 : wc.cell? ⟨w.heap.size + 1, 2, none⟩ = some (.int .i64 z) := HM.x.cell 2
        clear HM
        go_region_with (go_at_call 119; refine (reb_any _ _ (by exact IT.In.drewN 1 HT.out.lies) HT.out.nd HT.out.hb).mono ?_; rintro e w2 ⟨rfl, ht⟩; obtain ⟨V2, X2⟩ := HT.out.after (IT.In.lt HI.out) ht; have y0 := X2.cell 0; have y1 := X2.cell 1; have y2 := X2.cell 2; have v0 := V2.cell 0; have v1 := V2.cell 1; have v2 := V2.cell 2; have vf := V2.frozen; simp only [List.getElem?_toArray, List.getElem?_cons_succ, List.getElem?_cons_zero] at y0 y1 y2 v0 v1 v2)
        all_goals
          go_wp2_with fail
          refine bodyPost_ret (v := .tuple #[.pointer (reb (IT.node b s h m (l.rem lo) r)).ptr, .agg #[.int .i64 x, .int .i64 y, .int .i64 z], .bool (l.get lo).isSome]) (by simp [results, Try.results101, go_sem, v0, v1, v2]) rfl ?_
          obtain ⟨d1, d2⟩ := HT.out.done (IT.In.lt HI.out) ht
          unfold RemPost
          rw [HE.out.1, HE.out.2, HKV.out]
          exact ⟨rfl, d1, d2⟩
      · by_cases c2 : s.lo < lo
        · have IH := Lib.hid (fun w' (hi' : r.In w') => ih r (by omega) lo w' hi' nd.2 HR.out.2.2 (by omega))
          have e : (IT.node b s h m l r).get lo = r.get lo := by simp only [IT.get]; rw [if_neg c1, if_pos c2]
          have e2 : (IT.node b s h m l r).rem lo = reb (.node b s h m l (r.rem lo)) := by rw [rem_node, if_neg c1, if_pos c2]
          have HE := Lib.hid (And.intro e2 e)
          clear ih e e2
          obtain ⟨x, y, z, hk⟩ := kv_form (r.get lo)
          have HKV := Lib.hid hk
          obtain ⟨rs1, rs2, rs3⟩ := rem_sub (t := r) (lo := lo) nd.2
          have HRS := Lib.hid (And.intro rs1 (And.intro rs2 rs3))
          have hbx : ¬ b = w.heap.size + 1 := by omega
          have hbx' : ¬ w.heap.size + 1 = b := by omega
          clear hk rs1 rs2 rs3
          go_enter Try.func101, Try.ntmps101
          go_wp2_with fail
          rw [← hW]
          refine (IH.out _ HF.out.2.2.2.2.2).mono ?_
          rintro e w2 ⟨rfl, hin, hfr⟩
          rw [HKV.out]
          have B2 := HF.out.2.2.2.1.fr hfr nb.2
          have X2 := HF.out.2.2.1.fr hfr (fun hx => by have := IT.In.lt HI.out (w.heap.size + 1) (by simp only [IT.ids]; grind); omega)
          have V2 := HF.out.2.1.fr hfr (fun hx => by have := IT.In.lt HI.out w.heap.size (by simp only [IT.ids]; grind); omega)
          have y0 := X2.cell 0
          have y1 := X2.cell 1
          have y2 := X2.cell 2
          have yf := X2.frozen
          have c4 := B2.cell 5
          have cf := B2.frozen
          simp only [cellsI, List.getElem?_toArray, List.getElem?_cons_succ, List.getElem?_cons_zero] at y0 y1 y2 c4
          have B3 := set_r B2 (r.rem lo) _ rfl
          have O3 := IT.In.set (IT.In.fr hfr HF.out.2.2.2.2.1 (fun i h1 h2 => dis i h1 h2)) 5 (.pointer (r.rem lo).ptr) nb.1
          have T3 := IT.In.set hin 5 (.pointer (r.rem lo).ptr) (fun hx => nb.2 (HRS.out.2.1 _ hx))
          have F3 : Fr (IT.node b s h m l r).ids w (w2.setCell ⟨b, 5, none⟩ (.pointer (r.rem lo).ptr)) := (HF.out.1.trans hfr (by simp) (fun i hx => .inl (by simp only [IT.ids]; grind))).comp (Fr.setCell _ b 5 _ (by simp [IT.ids]))
          have hn3 : (IT.node b s h m l (r.rem lo)).ids.Nodup := by
            have h1 := HN.out
            have h2 := HRS.out.1
            have h3 := HRS.out.2.1
            simp only [IT.ids] at h1 ⊢
            grind
          have hs3 : ∀ i ∈ (IT.node b s h m l (r.rem lo)).ids, i ∈ (IT.node b s h m l r).ids := by
            have h3 := HRS.out.2.1
            simp only [IT.ids]
            grind
          have hrt := rem_rt r.sz r lo (Nat.le_refl _) HR.out.2.2
          have hb3 : (IT.node b s h m l (r.rem lo)).Hb := by
            have h0 := IT.Rt.hb HR.out (by simp only [IT.ids, List.length_cons, List.length_append]; omega)
            have h1 := IT.Rt.hb hrt (by have := HRS.out.2.2; omega)
            exact ⟨h0.1, h0.2.1, h1⟩
          have HM := RemMid.mk2 (x := x) (y := y) (z := z) (IT.In.lt HI.out) (T := IT.node b s h m l (r.rem lo)) ⟨B3, O3, T3⟩ hn3 hb3 hs3 (V2.far (by omega)) (X2.far (Ne.symm hbx)) F3
          clear B2 X2 V2 B3 O3 T3 F3 hn3 hs3 hrt hb3 hin hfr p0 p1 p2 p3 p4 p5 p6 pf
          have HM0 := Lib.hid HM
          clear HM
          go_wp2_with fail
          have HM := HM0.out
          clear y0 y1 y2 yf c4 cf HM0
          generalize ((((w2.setCell ⟨b, 5, none⟩ (.pointer (r.rem lo).ptr)).setCell ⟨w.heap.size + 1, 0, none⟩ (.int .i64 x)).setCell ⟨w.heap.size + 1, 1, none⟩ (.int .i64 y)).setCell ⟨w.heap.size + 1, 2, none⟩ (.int .i64 z)) = wc at *
          have HT := Lib.hid HM
          have x0 : wc.cell? ⟨w.heap.size + 1, 0, none⟩ = some (.int .i64 x) := HM.x.cell 0
          have x1 : wc.cell? ⟨w.heap.size + 1, 1, none⟩ = some (.int .i64 y) := HM.x.cell 1
          have x2 : wc.cell? ⟨w.heap.size + 1, 2, none⟩ = some (.int .i64 z) := HM.x.cell 2
          clear HM
          go_region_with (go_at_call 119; refine (reb_any _ _ (by exact IT.In.drewN 1 HT.out.lies) HT.out.nd HT.out.hb).mono ?_; rintro e w2 ⟨rfl, ht⟩; obtain ⟨V2, X2⟩ := HT.out.after (IT.In.lt HI.out) ht; have y0 := X2.cell 0; have y1 := X2.cell 1; have y2 := X2.cell 2; have v0 := V2.cell 0; have v1 := V2.cell 1; have v2 := V2.cell 2; have vf := V2.frozen; simp only [List.getElem?_toArray, List.getElem?_cons_succ, List.getElem?_cons_zero] at y0 y1 y2 v0 v1 v2)
          all_goals
            go_wp2_with fail
            refine bodyPost_ret (v := .tuple #[.pointer (reb (IT.node b s h m l (r.rem lo))).ptr, .agg #[.int .i64 x, .int .i64 y, .int .i64 z], .bool (r.get lo).isSome]) (by simp [results, Try.results101, go_sem, v0, v1, v2]) rfl ?_
            obtain ⟨d1, d2⟩ := HT.out.done (IT.In.lt HI.out) ht
            unfold RemPost
            rw [HE.out.1, HE.out.2, HKV.out]
            exact ⟨rfl, d1, d2⟩
        · have e : (IT.node b s h m l r).get lo = some s := by simp only [IT.get]; rw [if_neg c1, if_neg c2]
          have e2 : (IT.node b s h m l r).rem lo = reb (remTop b h m l r) := rem_eq lo b s h m l r c1 c2
          have HE := Lib.hid (And.intro e2 e)
          have hth := fun (w' : World) (hi' : (IT.node b s h m l r).In w') => this_calls b s h m l r w' hi' HN.out (fun lo' w2 hi2 => ih r (by omega) lo' w2 hi2 nd.2 HR.out.2.2 (by omega))
          have HTH := Lib.hid hth
          obtain ⟨tf1, tf2, tf3⟩ := top_facts b s h m l r HN.out HR.out (by omega)
          have HTF := Lib.hid (And.intro tf1 (And.intro tf2 tf3))
          clear ih e e2 hth tf1 tf2 tf3
          go_enter Try.func101, Try.ntmps101
          go_wp2_with fail
          rw [← hW]
          refine (newKV_calls b s h m l r _ HF.out.2.2.2.1).mono ?_
          rintro e w1 ⟨rfl, f1⟩
          have V1 := HF.out.2.1.fr f1 (by simp)
          have X1 := HF.out.2.2.1.fr f1 (by simp)
          have I1 := IT.In.fr f1 HF.out.2.2.2 (by simp)
          have y0 : w1.cell? ⟨w.heap.size + 1, 0, none⟩ = some (.int .i64 0) := X1.cell 0
          have y1 : w1.cell? ⟨w.heap.size + 1, 1, none⟩ = some (.int .i64 0) := X1.cell 1
          have y2 : w1.cell? ⟨w.heap.size + 1, 2, none⟩ = some (.int .i64 0) := X1.cell 2
          have yf := X1.frozen
          have f3 : Fr [w.heap.size + 1] w1 (((w1.setCell ⟨w.heap.size + 1, 0, none⟩ (.int .i64 s.lo)).setCell ⟨w.heap.size + 1, 1, none⟩ (.int .i64 s.hi)).setCell ⟨w.heap.size + 1, 2, none⟩ (.int .i64 s.v)) :=
            ((Fr.setCell _ _ 0 _ (by simp)).comp (Fr.setCell _ _ 1 _ (by simp))).comp (Fr.setCell _ _ 2 _ (by simp))
          have X2 := ((X1.set 0 (.int .i64 s.lo)).set 1 (.int .i64 s.hi)).set 2 (.int .i64 s.v)
          have V2 := V1.fr f3 (by simp)
          have I2 := IT.In.fr f3 I1 (fun i hi e => by rw [List.mem_singleton.1 e] at hi; have := IT.In.lt HI.out _ hi; omega)
          have F2 : Fr (IT.node b s h m l r).ids w _ := ((HF.out.1.comp f1).mono (by simp)).trans f3 (fun _ h => .inl h) (fun i hx => .inr (by rw [List.mem_singleton.1 hx]; omega))
          have H2 := Lib.hid (And.intro X2 (And.intro V2 (And.intro I2 F2)))
          clear V1 X1 I1 f3 X2 V2 I2 F2 f1 p0 p1 p2 p3 p4 p5 p6 pf
          simp only [kvOf]
          go_wp2_with fail
          generalize (((w1.setCell ⟨w.heap.size + 1, 0, none⟩ (.int .i64 s.lo)).setCell ⟨w.heap.size + 1, 1, none⟩ (.int .i64 s.hi)).setCell ⟨w.heap.size + 1, 2, none⟩ (.int .i64 s.v)) = w3 at *
          clear y0 y1 y2 yf
          refine (HTH.out w3 H2.out.2.2.1).mono ?_
          rintro e w2 ⟨rfl, hin, hfr⟩
          have hfr' : Fr (IT.node b s h m l r).ids w3 w2 := hfr
          have HM : RemMid (IT.node b s h m l r) (remTop b h m l r) s.lo s.hi s.v w w2 := ⟨hin, HTF.out.1, HTF.out.2.2,
            H2.out.2.1.fr hfr' (fun hx => by have := IT.In.lt HI.out _ hx; omega), H2.out.1.fr hfr' (fun hx => by have := IT.In.lt HI.out _ hx; omega), H2.out.2.2.2.comp hfr', HTF.out.2.1⟩
          clear hin hfr hfr'
          go_wp2_with fail
          have HT := Lib.hid HM
          have x0 : w2.cell? ⟨w.heap.size + 1, 0, none⟩ = some (.int .i64 s.lo) := HM.x.cell 0
          have x1 : w2.cell? ⟨w.heap.size + 1, 1, none⟩ = some (.int .i64 s.hi) := HM.x.cell 1
          have x2 : w2.cell? ⟨w.heap.size + 1, 2, none⟩ = some (.int .i64 s.v) := HM.x.cell 2
          clear HM
          go_region_with (go_at_call 119; refine (reb_any _ _ (by exact IT.In.drewN 1 HT.out.lies) HT.out.nd HT.out.hb).mono ?_; rintro e w4 ⟨rfl, ht⟩; obtain ⟨V2, X2⟩ := HT.out.after (IT.In.lt HI.out) ht; have y0 := X2.cell 0; have y1 := X2.cell 1; have y2 := X2.cell 2; have v0 := V2.cell 0; have v1 := V2.cell 1; have v2 := V2.cell 2; have vf := V2.frozen; simp only [List.getElem?_toArray, List.getElem?_cons_succ, List.getElem?_cons_zero] at y0 y1 y2 v0 v1 v2)
          all_goals
            go_wp2_with fail
            refine bodyPost_ret (v := .tuple #[.pointer (reb (remTop b h m l r)).ptr, .agg #[.int .i64 s.lo, .int .i64 s.hi, .int .i64 s.v], .bool true]) (by simp [results, Try.results101, go_sem, v0, v1, v2]) rfl ?_
            obtain ⟨d1, d2⟩ := HT.out.done (IT.In.lt HI.out) ht
            unfold RemPost
            rw [HE.out.1, HE.out.2]
            exact ⟨rfl, d1, d2⟩
end Go.Proofs.Ytomclflknjkhfaa
