/- interval trees in memory: insert. -/
import Derived.Test.YtomclflknjkhfaaItv3a
namespace Go.Proofs.Ytomclflknjkhfaa
open Go.RowKit ItP

set_option maxRecDepth 100000 in
set_option maxHeartbeats 3200000 in
theorem ins_calls (s : Sp) (ow : Bool) : ∀ (t : IT) (w : World), t.In w → t.ids.Nodup → t.Rt → t.ids.length ≤ 10000000000 →
    Calls Try.prog 99 #[.pointer t.ptr, .agg #[.int .i64 s.lo, .int .i64 s.hi], .int .i64 s.v, .bool ow] w (InsPost s ow t w) := by
  intro t
  induction t with
  | nil => exact fun w _ _ _ _ => ins_nil s ow w
  | node b s2 h m l r ihl ihr =>
    intro w hi hn rt hs
    have HI := Lib.hid hi
    have HN := Lib.hid hn
    have HR := Lib.hid rt
    have bl := hi.1.lt
    have nb : b ∉ l.ids ∧ b ∉ r.ids := by simp only [IT.ids] at hn; grind
    have nd : l.ids.Nodup ∧ r.ids.Nodup := by simp only [IT.ids] at hn; grind
    simp only [IT.ids, List.length_cons, List.length_append] at hs
    show Calls _ _ #[.pointer (some ⟨b, 0, none⟩), _, _, _] _ _
    obtain ⟨W, hW, F0, K0, V0, X0, Z0⟩ := boxes w s.lo s.hi
    have I0 := IT.In.fr F0 hi (fun _ _ => by simp)
    obtain ⟨⟨p0, p1, p2, p3, p4, p5, p6⟩, pf⟩ := node_cells I0.1
    have k0 : W.cell? ⟨w.heap.size, 0, none⟩ = some (.int .i64 s.lo) := K0.cell 0
    have k1 : W.cell? ⟨w.heap.size, 1, none⟩ = some (.int .i64 s.hi) := K0.cell 1
    have HF := Lib.hid (And.intro F0 (And.intro K0 (And.intro V0 (And.intro X0 I0))))
    clear hi hn rt F0 K0 V0 X0 I0
    by_cases c1 : s.lo < s2.lo
    · have IH := Lib.hid (fun w' (hi' : l.In w') => ihl w' hi' nd.1 HR.out.2.1 (by omega))
      have e : (IT.node b s2 h m l r).get s.lo = l.get s.lo := by simp only [IT.get]; rw [if_pos c1]
      have e2 := fun nb => (show (IT.node b s2 h m l r).ins s ow nb = reb (.node b s2 h m (l.ins s ow nb) r) by simp only [IT.ins]; rw [if_pos c1])
      have HE := Lib.hid (And.intro e e2)
      clear ihl ihr e e2
      go_enter Try.func99, Try.ntmps99
      go_wp2_with fail
      rw [← hW]
      have HW := Lib.hid (And.intro hW Z0)
      clear hW Z0
      go_quiet (fail)
      obtain ⟨x, y, z, hk⟩ := kv_form (l.get s.lo)
      have HKV := Lib.hid hk
      clear hk
      obtain ⟨W1, hW1⟩ : ∃ W1, W1 = W.drewN nq := ⟨_, rfl⟩
      have I1 := IT.In.drewN nq HF.out.2.2.2.2
      have F1 : Fr [] w (W.drewN nq) := HF.out.1.comp (Fr.drewN _ _ nq)
      have K1 := HF.out.2.1.drewN nq
      have V1 := HF.out.2.2.1.drewN nq
      have X1 := HF.out.2.2.2.1.drewN nq
      have Z1 : (W.drewN nq).heap.size = w.heap.size + 1 + 1 + 1 := HW.out.2
      rw [← hW1] at I1 F1 K1 V1 X1 Z1 ⊢
      clear HW hW1 p0 p1 p2 p3 p4 p5 p6 pf k0 k1 HF
      obtain ⟨⟨p0, p1, p2, p3, p4, p5, p6⟩, pf⟩ := node_cells I1.1
      have k0 : W1.cell? ⟨w.heap.size, 0, none⟩ = some (.int .i64 s.lo) := K1.cell 0
      have k1 : W1.cell? ⟨w.heap.size, 1, none⟩ = some (.int .i64 s.hi) := K1.cell 1
      have HZ := Lib.hid Z1
      have H1 := Lib.hid (And.intro F1 (And.intro V1 (And.intro X1 I1)))
      clear I1 F1 K1 V1 X1 Z1
      have il := IT.In.lt HI.out
      have nbx : w.heap.size + 1 + 1 ∉ l.ids ∧ w.heap.size + 1 ∉ l.ids ∧ (∀ y ∈ r.ids, y ∉ l.ids) := by
        refine ⟨fun hx => ?_, fun hx => ?_, ?_⟩
        · have := il _ (List.mem_cons_of_mem _ (List.mem_append_left _ hx)); omega
        · have := il _ (List.mem_cons_of_mem _ (List.mem_append_left _ hx)); omega
        · have := HN.out; simp only [IT.ids] at this; grind
      have hbx : ¬ b = w.heap.size + 1 + 1 := by omega
      have hbx' : ¬ w.heap.size + 1 + 1 = b := by omega
      clear il
      go_upto_region 6 with (fail)
      go_cut [12] (fun s12 wx => s12 = .bool (l.get s.lo).isSome ∧ Hid (InsMid (IT.node b s2 h m l r) (fun nb => .node b s2 h m (l.ins s ow nb) r) x y z w wx))
      case first =>
        go_region_with (go_at_call 99; refine (IH.out _ (by exact IT.In.drewN 1 H1.out.2.2.2.2.1)).mono ?_; rintro e w2 ⟨nb', hnb, rfl, hin, hfr⟩; rw [HKV.out]; have B2 := (H1.out.2.2.2.1.drewN 1).fr hfr nb.1; have X2 := (H1.out.2.2.1.drewN 1).fr hfr nbx.1; have y0 := X2.cell 0; have y1 := X2.cell 1; have y2 := X2.cell 2; have yf := X2.frozen; have c4 := B2.cell 4; have cf := B2.frozen; simp only [cellsI, List.getElem?_toArray, List.getElem?_cons_succ, List.getElem?_cons_zero] at y0 y1 y2 c4)
        all_goals
          go_wp2_with fail
          go_meet
          have hid := ins_ids s ow nb' l
          obtain ⟨hn3, hsub', nb2⟩ := grow_l (h := h) (m := m) hid HN.out (fun hx => absurd (IT.In.lt HI.out _ hx) (by have := HZ.out; simp at hnb; omega))
          have B3 := set_l B2 (l.ins s ow nb') _ rfl
          have O3 := IT.In.set (IT.In.fr hfr (IT.In.drewN 1 H1.out.2.2.2.2.2) nbx.2.2) 4 (.pointer (l.ins s ow nb').ptr) nb.2
          have T3 := IT.In.set hin 4 (.pointer (l.ins s ow nb').ptr) nb2
          have F3 : Fr (IT.node b s2 h m l r).ids w (w2.setCell ⟨b, 4, none⟩ (.pointer (l.ins s ow nb').ptr)) := ((H1.out.1.comp (Fr.drewN _ _ 1)).trans hfr (by simp) (fun i hx => .inl (by simp only [IT.ids]; grind))).comp (Fr.setCell _ b 4 _ (by simp [IT.ids]))
          exact ⟨rfl, InsMid.mk3 nb' (by have := HZ.out; simp at hnb; omega) (IT.In.lt HI.out) ⟨B3, T3, O3⟩ hn3 hsub' (((H1.out.2.1.drewN 1).fr hfr nbx.2.1).far (by omega)) (X2.far (Ne.symm hbx)) F3⟩
      case rest =>
      obtain ⟨rfl, HM⟩ := hcut
      obtain ⟨nb', h1, hin, hn3, V, X, F, hsub⟩ := HM.out.is
      have x0 : wc.cell? ⟨w.heap.size + 1 + 1, 0, none⟩ = some (.int .i64 x) := X.cell 0
      have x1 : wc.cell? ⟨w.heap.size + 1 + 1, 1, none⟩ = some (.int .i64 y) := X.cell 1
      have x2 : wc.cell? ⟨w.heap.size + 1 + 1, 2, none⟩ = some (.int .i64 z) := X.cell 2
      have lsz := grow_len (ins_ids s ow nb' l)
      have hbl := IT.Rt.hb (ins_rt s ow nb' HR.out.2.1) (by omega)
      have hbr := IT.Rt.hb HR.out.2.2 (by omega)
      have hne : ∀ k, w.heap.size + 1 ≤ k → k ≤ w.heap.size + 1 + 1 → k ∉ (IT.node b s2 h m (l.ins s ow nb') r).ids := fun k k1 k2 hx => by
        rcases hsub _ hx with h | h
        · have := IT.In.lt HI.out _ h; omega
        · have := h1; omega
      have HT := Lib.hid (And.intro hin (And.intro hn3 (And.intro V (And.intro X (And.intro F hsub)))))
      have HB := Lib.hid (And.intro hbl (And.intro hbr hne))
      clear hin hn3 V X F hsub lsz hbl hbr hne p0 p1 p2 p3 p4 p5 p6 pf k0 k1
      go_wp2_with fail
      go_region_with (go_at_call 119; refine (reb_calls b s2 h m _ r _ (by exact IT.In.drewN 1 HT.out.1) HT.out.2.1 HB.out.1 HB.out.2.1).mono ?_; rintro e w2 ⟨rfl, ht⟩; have X2 := (HT.out.2.2.2.1.drewN 1).fr ht.frame (HB.out.2.2 _ (by omega) (by omega)); have V2 := (HT.out.2.2.1.drewN 1).fr ht.frame (HB.out.2.2 _ (by omega) (by omega)); have y0 := X2.cell 0; have y1 := X2.cell 1; have y2 := X2.cell 2; have v0 := V2.cell 0; have v1 := V2.cell 1; have v2 := V2.cell 2; have vf := V2.frozen; simp only [List.getElem?_toArray, List.getElem?_cons_succ, List.getElem?_cons_zero] at y0 y1 y2 v0 v1 v2)
      all_goals
        go_wp2_with fail
        refine bodyPost_ret (v := .tuple #[.pointer (reb (IT.node b s2 h m (l.ins s ow nb') r)).ptr, .agg #[.int .i64 x, .int .i64 y, .int .i64 z], .bool (l.get s.lo).isSome]) (by simp [results, Try.results99, go_sem, v0, v1, v2]) rfl ?_
        rw [← HKV.out]
        have F9 : Fr (IT.node b s2 h m l r).ids w w2 := (HT.out.2.2.2.2.1.comp (Fr.drewN _ wc 1)).trans ht.frame (fun _ h => .inl h) (fun i hi => (HT.out.2.2.2.2.2 i hi).imp id (fun e => by omega))
        have f4 : Fr [w.heap.size + 1] w2 (((w2.setCell ⟨w.heap.size + 1, 0, none⟩ (.int .i64 x)).setCell ⟨w.heap.size + 1, 1, none⟩ (.int .i64 y)).setCell ⟨w.heap.size + 1, 2, none⟩ (.int .i64 z)) :=
          ((Fr.setCell _ _ 0 _ (by simp)).comp (Fr.setCell _ _ 1 _ (by simp))).comp (Fr.setCell _ _ 2 _ (by simp))
        refine ⟨nb', by omega, by rw [HE.out.1, HE.out.2], ?_, F9.trans f4 (fun _ h => .inl h) (fun i hx => .inr (by rw [List.mem_singleton.1 hx]; omega))⟩
        rw [HE.out.2]
        exact IT.In.fr f4 ht.lies (fun i hi e => HB.out.2.2 (w.heap.size + 1) (by omega) (by omega) (by rw [List.mem_singleton.1 e] at hi; exact (reb_ids _).mem_iff.1 hi))
    · by_cases c2 : s2.lo < s.lo
      · have IH := Lib.hid (fun w' (hi' : r.In w') => ihr w' hi' nd.2 HR.out.2.2 (by omega))
        have e : (IT.node b s2 h m l r).get s.lo = r.get s.lo := by simp only [IT.get]; rw [if_neg c1, if_pos c2]
        have e2 := fun nb => (show (IT.node b s2 h m l r).ins s ow nb = reb (.node b s2 h m l (r.ins s ow nb)) by simp only [IT.ins]; rw [if_neg c1, if_pos c2])
        have HE := Lib.hid (And.intro e e2)
        clear ihl ihr e e2
        go_enter Try.func99, Try.ntmps99
        go_wp2_with fail
        rw [← hW]
        have HW := Lib.hid (And.intro hW Z0)
        clear hW Z0
        go_quiet (fail)
        obtain ⟨na, hna⟩ : ∃ na, na = nq := ⟨_, rfl⟩
        rw [← hna]
        clear hna
        go_wp2_with fail
        go_quiet (fail)
        rw [World.drewN_drewN]
        obtain ⟨nz, hnz⟩ : ∃ nz, nz = na + nq := ⟨_, rfl⟩
        rw [← hnz]
        clear hnz
        obtain ⟨x, y, z, hk⟩ := kv_form (r.get s.lo)
        have HKV := Lib.hid hk
        clear hk
        obtain ⟨W1, hW1⟩ : ∃ W1, W1 = W.drewN nz := ⟨_, rfl⟩
        have I1 := IT.In.drewN nz HF.out.2.2.2.2
        have F1 : Fr [] w (W.drewN nz) := HF.out.1.comp (Fr.drewN _ _ nz)
        have K1 := HF.out.2.1.drewN nz
        have V1 := HF.out.2.2.1.drewN nz
        have X1 := HF.out.2.2.2.1.drewN nz
        have Z1 : (W.drewN nz).heap.size = w.heap.size + 1 + 1 + 1 := HW.out.2
        rw [← hW1] at I1 F1 K1 V1 X1 Z1 ⊢
        clear HW hW1 p0 p1 p2 p3 p4 p5 p6 pf k0 k1 HF
        obtain ⟨⟨p0, p1, p2, p3, p4, p5, p6⟩, pf⟩ := node_cells I1.1
        have k0 : W1.cell? ⟨w.heap.size, 0, none⟩ = some (.int .i64 s.lo) := K1.cell 0
        have k1 : W1.cell? ⟨w.heap.size, 1, none⟩ = some (.int .i64 s.hi) := K1.cell 1
        have HZ := Lib.hid Z1
        have H1 := Lib.hid (And.intro F1 (And.intro V1 (And.intro X1 I1)))
        clear I1 F1 K1 V1 X1 Z1
        have il := IT.In.lt HI.out
        have nbx : w.heap.size + 1 + 1 ∉ r.ids ∧ w.heap.size + 1 ∉ r.ids ∧ (∀ y ∈ l.ids, y ∉ r.ids) := by
          refine ⟨fun hx => ?_, fun hx => ?_, ?_⟩
          · have := il _ (List.mem_cons_of_mem _ (List.mem_append_right _ hx)); omega
          · have := il _ (List.mem_cons_of_mem _ (List.mem_append_right _ hx)); omega
          · have := HN.out; simp only [IT.ids] at this; grind
        have hbx : ¬ b = w.heap.size + 1 + 1 := by omega
        have hbx' : ¬ w.heap.size + 1 + 1 = b := by omega
        clear il
        go_upto_region 8 with (fail)
        go_cut [12] (fun s12 wx => s12 = .bool (r.get s.lo).isSome ∧ Hid (InsMid (IT.node b s2 h m l r) (fun nb => .node b s2 h m l (r.ins s ow nb)) x y z w wx))
        case first =>
          go_region_with (go_at_call 99; refine (IH.out _ (by exact IT.In.drewN 1 H1.out.2.2.2.2.2)).mono ?_; rintro e w2 ⟨nb', hnb, rfl, hin, hfr⟩; rw [HKV.out]; have B2 := (H1.out.2.2.2.1.drewN 1).fr hfr nb.2; have X2 := (H1.out.2.2.1.drewN 1).fr hfr nbx.1; have y0 := X2.cell 0; have y1 := X2.cell 1; have y2 := X2.cell 2; have yf := X2.frozen; have c4 := B2.cell 5; have cf := B2.frozen; simp only [cellsI, List.getElem?_toArray, List.getElem?_cons_succ, List.getElem?_cons_zero] at y0 y1 y2 c4)
          all_goals
            go_wp2_with fail
            go_meet
            have hid := ins_ids s ow nb' r
            obtain ⟨hn3, hsub', nb2⟩ := grow_r (h := h) (m := m) hid HN.out (fun hx => absurd (IT.In.lt HI.out _ hx) (by have := HZ.out; simp at hnb; omega))
            have B3 := set_r B2 (r.ins s ow nb') _ rfl
            have O3 := IT.In.set (IT.In.fr hfr (IT.In.drewN 1 H1.out.2.2.2.2.1) nbx.2.2) 5 (.pointer (r.ins s ow nb').ptr) nb.1
            have T3 := IT.In.set hin 5 (.pointer (r.ins s ow nb').ptr) nb2
            have F3 : Fr (IT.node b s2 h m l r).ids w (w2.setCell ⟨b, 5, none⟩ (.pointer (r.ins s ow nb').ptr)) := ((H1.out.1.comp (Fr.drewN _ _ 1)).trans hfr (by simp) (fun i hx => .inl (by simp only [IT.ids]; grind))).comp (Fr.setCell _ b 5 _ (by simp [IT.ids]))
            exact ⟨rfl, InsMid.mk3 nb' (by have := HZ.out; simp at hnb; omega) (IT.In.lt HI.out) ⟨B3, O3, T3⟩ hn3 hsub' (((H1.out.2.1.drewN 1).fr hfr nbx.2.1).far (by omega)) (X2.far (Ne.symm hbx)) F3⟩
        case rest =>
        obtain ⟨rfl, HM⟩ := hcut
        obtain ⟨nb', h1, hin, hn3, V, X, F, hsub⟩ := HM.out.is
        have x0 : wc.cell? ⟨w.heap.size + 1 + 1, 0, none⟩ = some (.int .i64 x) := X.cell 0
        have x1 : wc.cell? ⟨w.heap.size + 1 + 1, 1, none⟩ = some (.int .i64 y) := X.cell 1
        have x2 : wc.cell? ⟨w.heap.size + 1 + 1, 2, none⟩ = some (.int .i64 z) := X.cell 2
        have lsz := grow_len (ins_ids s ow nb' r)
        have hbl := IT.Rt.hb HR.out.2.1 (by omega)
        have hbr := IT.Rt.hb (ins_rt s ow nb' HR.out.2.2) (by omega)
        have hne : ∀ k, w.heap.size + 1 ≤ k → k ≤ w.heap.size + 1 + 1 → k ∉ (IT.node b s2 h m l (r.ins s ow nb')).ids := fun k k1 k2 hx => by
          rcases hsub _ hx with h | h
          · have := IT.In.lt HI.out _ h; omega
          · have := h1; omega
        have HT := Lib.hid (And.intro hin (And.intro hn3 (And.intro V (And.intro X (And.intro F hsub)))))
        have HB := Lib.hid (And.intro hbl (And.intro hbr hne))
        clear hin hn3 V X F hsub lsz hbl hbr hne p0 p1 p2 p3 p4 p5 p6 pf k0 k1
        go_wp2_with fail
        go_region_with (go_at_call 119; refine (reb_calls b s2 h m l _ _ (by exact IT.In.drewN 1 HT.out.1) HT.out.2.1 HB.out.1 HB.out.2.1).mono ?_; rintro e w2 ⟨rfl, ht⟩; have X2 := (HT.out.2.2.2.1.drewN 1).fr ht.frame (HB.out.2.2 _ (by omega) (by omega)); have V2 := (HT.out.2.2.1.drewN 1).fr ht.frame (HB.out.2.2 _ (by omega) (by omega)); have y0 := X2.cell 0; have y1 := X2.cell 1; have y2 := X2.cell 2; have v0 := V2.cell 0; have v1 := V2.cell 1; have v2 := V2.cell 2; have vf := V2.frozen; simp only [List.getElem?_toArray, List.getElem?_cons_succ, List.getElem?_cons_zero] at y0 y1 y2 v0 v1 v2)
        all_goals
          go_wp2_with fail
          refine bodyPost_ret (v := .tuple #[.pointer (reb (IT.node b s2 h m l (r.ins s ow nb'))).ptr, .agg #[.int .i64 x, .int .i64 y, .int .i64 z], .bool (r.get s.lo).isSome]) (by simp [results, Try.results99, go_sem, v0, v1, v2]) rfl ?_
          rw [← HKV.out]
          have F9 : Fr (IT.node b s2 h m l r).ids w w2 := (HT.out.2.2.2.2.1.comp (Fr.drewN _ wc 1)).trans ht.frame (fun _ h => .inl h) (fun i hi => (HT.out.2.2.2.2.2 i hi).imp id (fun e => by omega))
          have f4 : Fr [w.heap.size + 1] w2 (((w2.setCell ⟨w.heap.size + 1, 0, none⟩ (.int .i64 x)).setCell ⟨w.heap.size + 1, 1, none⟩ (.int .i64 y)).setCell ⟨w.heap.size + 1, 2, none⟩ (.int .i64 z)) :=
            ((Fr.setCell _ _ 0 _ (by simp)).comp (Fr.setCell _ _ 1 _ (by simp))).comp (Fr.setCell _ _ 2 _ (by simp))
          refine ⟨nb', by omega, by rw [HE.out.1, HE.out.2], ?_, F9.trans f4 (fun _ h => .inl h) (fun i hx => .inr (by rw [List.mem_singleton.1 hx]; omega))⟩
          rw [HE.out.2]
          exact IT.In.fr f4 ht.lies (fun i hi e => HB.out.2.2 (w.heap.size + 1) (by omega) (by omega) (by rw [List.mem_singleton.1 e] at hi; exact (reb_ids _).mem_iff.1 hi))
      · exact ins_eq s ow b s2 h m l r w HI.out HN.out HR.out (by simp only [IT.ids, List.length_cons, List.length_append]; omega) c1 c2
end Go.Proofs.Ytomclflknjkhfaa
