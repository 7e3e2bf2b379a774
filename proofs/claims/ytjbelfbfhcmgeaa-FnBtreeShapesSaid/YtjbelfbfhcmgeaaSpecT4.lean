/- spec.Tree: Step. -/
import Derived.Test.YtjbelfbfhcmgeaaSpecT3
namespace Go.Proofs.Ytjbelfbfhcmgeaa.Kp
open Go.RowKit Om

/-- a step of a script on a map: what it leaves, and tells. -/
def StepPost (w : World) (r : Int → Int) (a : ActD) (m : R) (e : Ending) (w' : World) : Prop := ∃ kv vv ka va,
  e = .returned (.tuple #[.agg #[kv, vv], .agg #[.int .i64 (tellT r a m).val, .bool (tellT r a m).ok, ka, va]]) ∧ TT w' kv vv (mapS r a m) ∧ NS w' ka (tellT r a m).keys ∧ NS w' va (tellT r a m).vals ∧ Below w.heap.size w w'
/-- the four blocks of a step. -/
structure SB (w W : World) (kv vv : Value) (act key val : Int) : Prop where
  b0 : Blk W w.heap.size #[kv, vv] 42
  b1 : Blk W (w.heap.size + 1) #[.int .i64 act, .int .i64 key, .int .i64 val] 52
  b2 : Blk W (w.heap.size + 1 + 1) #[.slice none 0 0, .slice none 0 0] 42
  b3 : Blk W (w.heap.size + 1 + 1 + 1) #[.int .i64 0, .bool false, .slice none 0 0, .slice none 0 0] 50
  bel : Below w.heap.size w W
theorem SB.mk' (w : World) (kv vv : Value) (act key val : Int) : SB w ((((w.alloc (.cells #[kv, vv] 42)).alloc (.cells #[.int .i64 act, .int .i64 key, .int .i64 val] 52)).alloc (.cells #[.slice none 0 0, .slice none 0 0] 42)).alloc (.cells #[.int .i64 0, .bool false, .slice none 0 0, .slice none 0 0] 50)) kv vv act key val := by
  refine ⟨((Blk.new _ _ _).alloc _ |>.alloc _ |>.alloc _), ?_, ?_, ?_, ((((Below.refl _ w).alloc (Nat.le_refl _) _).alloc (by simp) _).alloc (by simp; omega) _).alloc (by simp; omega) _⟩
  · have := Blk.new (w.alloc (.cells #[kv, vv] 42)) #[.int .i64 act, .int .i64 key, .int .i64 val] 52
    rw [show (w.alloc (.cells #[kv, vv] 42)).heap.size = w.heap.size + 1 by simp] at this
    exact (this.alloc _).alloc _
  · have := Blk.new ((w.alloc (.cells #[kv, vv] 42)).alloc (.cells #[.int .i64 act, .int .i64 key, .int .i64 val] 52)) #[.slice none 0 0, .slice none 0 0] 42
    rw [show ((w.alloc (.cells #[kv, vv] 42)).alloc (.cells #[.int .i64 act, .int .i64 key, .int .i64 val] 52)).heap.size = w.heap.size + 1 + 1 by simp] at this
    exact this.alloc _
  · have := Blk.new (((w.alloc (.cells #[kv, vv] 42)).alloc (.cells #[.int .i64 act, .int .i64 key, .int .i64 val] 52)).alloc (.cells #[.slice none 0 0, .slice none 0 0] 42)) #[.int .i64 0, .bool false, .slice none 0 0, .slice none 0 0] 50
    rw [show (((w.alloc (.cells #[kv, vv] 42)).alloc (.cells #[.int .i64 act, .int .i64 key, .int .i64 val] 52)).alloc (.cells #[.slice none 0 0, .slice none 0 0] 42)).heap.size = w.heap.size + 1 + 1 + 1 by simp] at this
    exact this
theorem keepI_drew (w : World) : KeepI w w.drew := fun _ _ h => h
theorem four_blk (w : World) (o0 o1 : Obj) (c2 c3 : Array Value) : Blk ((((w.alloc o0).alloc o1).alloc (.cells c2 42)).alloc (.cells c3 50)) (w.heap.size + 1 + 1) c2 42 ∧ Blk ((((w.alloc o0).alloc o1).alloc (.cells c2 42)).alloc (.cells c3 50)) (w.heap.size + 1 + 1 + 1) c3 50 ∧ Below w.heap.size w ((((w.alloc o0).alloc o1).alloc (.cells c2 42)).alloc (.cells c3 50)) := by
  refine ⟨?_, ?_, (((((Below.refl _ w).alloc (Nat.le_refl _) _).alloc (by simp) _).alloc (by simp; omega) _).alloc (by simp; omega) _)⟩
  · have := Blk.new ((w.alloc o0).alloc o1) c2 42
    rw [show ((w.alloc o0).alloc o1).heap.size = w.heap.size + 1 + 1 by simp] at this
    exact this.alloc _
  · have := Blk.new (((w.alloc o0).alloc o1).alloc (.cells c2 42)) c3 50
    rw [show (((w.alloc o0).alloc o1).alloc (.cells c2 42)).heap.size = w.heap.size + 1 + 1 + 1 by simp] at this
    exact this
theorem six_fr (w : World) (p q : Nat) (x0 x1 x2 x3 x4 x5 : Value) : Fr [p, q] w ((((((w.setCell ⟨p, 0, none⟩ x0).setCell ⟨p, 1, none⟩ x1).setCell ⟨q, 0, none⟩ x2).setCell ⟨q, 1, none⟩ x3).setCell ⟨q, 2, none⟩ x4).setCell ⟨q, 3, none⟩ x5) :=
  (((((Fr.setCell w p 0 x0 (by simp)).comp (Fr.setCell _ p 1 x1 (by simp))).comp (Fr.setCell _ q 0 x2 (by simp))).comp (Fr.setCell _ q 1 x3 (by simp))).comp (Fr.setCell _ q 2 x4 (by simp))).comp (Fr.setCell _ q 3 x5 (by simp))
/-- the answers, stored in their blocks. -/
theorem SB.fr {w W : World} {kv vv : Value} {act key val : Int} (h : SB w W kv vv act key val) {W' : World} (hf : Fr [w.heap.size + 1 + 1, w.heap.size + 1 + 1 + 1] W W') : KeepI W W' ∧ Below w.heap.size w W' :=
  ⟨KeepI.fr hf (fun b hb => by
    simp at hb
    rcases hb with rfl | rfl
    · exact ⟨_, _, h.b2, by decide⟩
    · exact ⟨_, _, h.b3, by decide⟩), h.bel.trans (hf.below (fun x hx => by simp at hx; omega) h.bel.size)⟩
theorem SB.below {w W W' : World} {kv vv : Value} {act key val : Int} (h : SB w W kv vv act key val) (hb : Below W.heap.size W W') : SB w W' kv vv act key val :=
  ⟨h.b0.below hb h.b0.lt, h.b1.below hb h.b1.lt, h.b2.below hb h.b2.lt, h.b3.below hb h.b3.lt, h.bel.trans (hb.mono h.bel.size)⟩
set_option maxRecDepth 100000 in
set_option maxHeartbeats 6400000 in
theorem tstep_0 (xs : List Int) (tv : Value) (m : R) (kv vv : Value) (act key val : Int) (w : World) (ht : SlR w w.heap.size tv (xs.map i64v)) (hm : TT w kv vv m) (hr : Rises (rankOf xs) m) (hn : m.length ≤ 10000000000) (h : act = 0) :
    Calls Try.prog 30 #[.agg #[kv, vv], tv, .agg #[.int .i64 act, .int .i64 key, .int .i64 val]] w (StepPost w (rankOf xs) ⟨act, key, val⟩ m) := by
  obtain ⟨At, ct, rfl⟩ := ht.form
  rw [List.length_map] at *
  obtain ⟨Ak, ck, Av, cv, rfl, rfl⟩ := hm.forms
  obtain rfl := h
  have HS := Lib.hid (SB.mk' w (.slice Ak m.length ck) (.slice Av m.length cv) 0 key val)
  have HM := Lib.hid hm
  have HT := Lib.hid ht
  have HR := Lib.hid hr
  clear ht hm hr
  go_enter Try.func30, Try.ntmps30
  go_wp2_with fail
  generalize (((w.alloc (.cells #[.slice Ak m.length ck, .slice Av m.length cv] 42)).alloc (.cells #[.int .i64 0, .int .i64 key, .int .i64 val] 52)).alloc (.cells #[.slice none 0 0, .slice none 0 0] 42)).alloc (.cells #[.int .i64 0, .bool false, .slice none 0 0, .slice none 0 0] 50) = W at *
  have hb := HS.out.bel
  refine (tput_calls xs _ m _ _ key val W ((HT.out.below hb).mono hb.size) (HM.out.below hb) hn).mono ?_
  rintro e w1 ⟨k1, v1, rfl, t1, b1⟩
  have S1 := HS.out.below b1
  obtain ⟨A1, c1, A2, c2, rfl, rfl⟩ := t1.forms
  have d0 := S1.b2.cell 0
  have d1 := S1.b2.cell 1
  have df := S1.b2.frozen
  have d2 := S1.b3.cell 0
  have d3 := S1.b3.cell 1
  have d4 := S1.b3.cell 2
  have d5 := S1.b3.cell 3
  have dg := S1.b3.frozen
  have HT1 := Lib.hid t1
  have HS1 := Lib.hid S1
  clear t1 S1 b1
  have HM2 := Lib.hid (show mapS (rankOf xs) ⟨0, key, val⟩ m = putL (rankOf xs) key val m from rfl)
  generalize (putL (rankOf xs) key val m : R) = m2 at *
  go_wp2_with fail
  obtain ⟨kp, bl⟩ := HS1.out.fr (six_fr w1 (w.heap.size + 1 + 1) (w.heap.size + 1 + 1 + 1) (.slice A1 m2.length c1) (.slice A2 m2.length c2) (.int .i64 0) (.bool false) (.slice none 0 0) (.slice none 0 0))
  refine bodyPost_ret (v := .tuple #[.agg #[.slice A1 m2.length c1, .slice A2 m2.length c2], .agg #[.int .i64 0, .bool false, .slice none 0 0, .slice none 0 0]]) (by simp [results, Try.results30, go_sem, d0, d1, d2, d3, d4, d5]) rfl ⟨_, _, _, _, rfl, ?_, ?_, ?_, ?_⟩
  · rw [HM2.out]; exact ⟨HT1.out.ks.keep kp, HT1.out.vs.keep kp⟩
  · exact NS.nil _
  · exact NS.nil _
  · exact bl
set_option maxRecDepth 100000 in
set_option maxHeartbeats 6400000 in
theorem tstep_1 (xs : List Int) (tv : Value) (m : R) (kv vv : Value) (act key val : Int) (w : World) (ht : SlR w w.heap.size tv (xs.map i64v)) (hm : TT w kv vv m) (hr : Rises (rankOf xs) m) (hn : m.length ≤ 10000000000) (h : act = 1) :
    Calls Try.prog 30 #[.agg #[kv, vv], tv, .agg #[.int .i64 act, .int .i64 key, .int .i64 val]] w (StepPost w (rankOf xs) ⟨act, key, val⟩ m) := by
  obtain ⟨At, ct, rfl⟩ := ht.form
  rw [List.length_map] at *
  obtain ⟨Ak, ck, Av, cv, rfl, rfl⟩ := hm.forms
  obtain rfl := h
  have HS := Lib.hid (SB.mk' w (.slice Ak m.length ck) (.slice Av m.length cv) 1 key val)
  have HM := Lib.hid hm
  have HT := Lib.hid ht
  have HR := Lib.hid hr
  clear ht hm hr
  go_enter Try.func30, Try.ntmps30
  go_wp2_with fail
  generalize (((w.alloc (.cells #[.slice Ak m.length ck, .slice Av m.length cv] 42)).alloc (.cells #[.int .i64 1, .int .i64 key, .int .i64 val] 52)).alloc (.cells #[.slice none 0 0, .slice none 0 0] 42)).alloc (.cells #[.int .i64 0, .bool false, .slice none 0 0, .slice none 0 0] 50) = W at *
  have hb := HS.out.bel
  refine (trem_calls xs _ m _ _ key W ((HT.out.below hb).mono hb.size) (HM.out.below hb) HR.out hn).mono ?_
  rintro e w1 ⟨k1, v1, rfl, t1, b1⟩
  have S1 := HS.out.below b1
  obtain ⟨A1, c1, A2, c2, rfl, rfl⟩ := t1.forms
  have d0 := S1.b2.cell 0
  have d1 := S1.b2.cell 1
  have df := S1.b2.frozen
  have d2 := S1.b3.cell 0
  have d3 := S1.b3.cell 1
  have d4 := S1.b3.cell 2
  have d5 := S1.b3.cell 3
  have dg := S1.b3.frozen
  have HT1 := Lib.hid t1
  have HS1 := Lib.hid S1
  clear t1 S1 b1
  have HM2 := Lib.hid (show mapS (rankOf xs) ⟨1, key, val⟩ m = remL (rankOf xs) key m from rfl)
  generalize (remL (rankOf xs) key m : R) = m2 at *
  go_wp2_with fail
  obtain ⟨kp, bl⟩ := HS1.out.fr (six_fr w1 (w.heap.size + 1 + 1) (w.heap.size + 1 + 1 + 1) (.slice A1 m2.length c1) (.slice A2 m2.length c2) (.int .i64 0) (.bool false) (.slice none 0 0) (.slice none 0 0))
  refine bodyPost_ret (v := .tuple #[.agg #[.slice A1 m2.length c1, .slice A2 m2.length c2], .agg #[.int .i64 0, .bool false, .slice none 0 0, .slice none 0 0]]) (by simp [results, Try.results30, go_sem, d0, d1, d2, d3, d4, d5]) rfl ⟨_, _, _, _, rfl, ?_, ?_, ?_, ?_⟩
  · rw [HM2.out]; exact ⟨HT1.out.ks.keep kp, HT1.out.vs.keep kp⟩
  · exact NS.nil _
  · exact NS.nil _
  · exact bl
set_option maxRecDepth 100000 in
set_option maxHeartbeats 6400000 in
theorem tstep_2 (xs : List Int) (tv : Value) (m : R) (kv vv : Value) (act key val : Int) (w : World) (ht : SlR w w.heap.size tv (xs.map i64v)) (hm : TT w kv vv m) (hr : Rises (rankOf xs) m) (hn : m.length ≤ 10000000000) (h : act = 2) :
    Calls Try.prog 30 #[.agg #[kv, vv], tv, .agg #[.int .i64 act, .int .i64 key, .int .i64 val]] w (StepPost w (rankOf xs) ⟨act, key, val⟩ m) := by
  obtain ⟨At, ct, rfl⟩ := ht.form
  rw [List.length_map] at *
  obtain ⟨Ak, ck, Av, cv, rfl, rfl⟩ := hm.forms
  obtain rfl := h
  have HS := Lib.hid (SB.mk' w (.slice Ak m.length ck) (.slice Av m.length cv) 2 key val)
  have HM := Lib.hid hm
  have HT := Lib.hid ht
  have HR := Lib.hid hr
  clear ht hm hr
  go_enter Try.func30, Try.ntmps30
  go_wp2_with fail
  generalize (((w.alloc (.cells #[.slice Ak m.length ck, .slice Av m.length cv] 42)).alloc (.cells #[.int .i64 2, .int .i64 key, .int .i64 val] 52)).alloc (.cells #[.slice none 0 0, .slice none 0 0] 42)).alloc (.cells #[.int .i64 0, .bool false, .slice none 0 0, .slice none 0 0] 50) = W at *
  have hb := HS.out.bel
  refine (tget_calls xs _ m _ _ key W ((HT.out.below hb).mono hb.size) (HM.out.below hb) HR.out hn).mono ?_
  rintro e w1 ⟨rfl, b1⟩
  have S1 := HS.out.below b1
  have c0 := S1.b0.cell 0
  have c1 := S1.b0.cell 1
  have d0 := S1.b2.cell 0
  have d1 := S1.b2.cell 1
  have df := S1.b2.frozen
  have d2 := S1.b3.cell 0
  have d3 := S1.b3.cell 1
  have d4 := S1.b3.cell 2
  have d5 := S1.b3.cell 3
  have dg := S1.b3.frozen
  have HS1 := Lib.hid S1
  clear S1 b1
  have HTL : Hid (tellT (rankOf xs) ⟨2, key, val⟩ m = ⟨(getT (rankOf xs) key m).1, (getT (rankOf xs) key m).2, [], []⟩) := Lib.hid rfl
  generalize getT (rankOf xs) key m = g at *
  obtain ⟨gn, gb⟩ := g
  simp only at *
  go_wp2_with fail
  obtain ⟨kp, bl⟩ := HS1.out.fr (six_fr w1 (w.heap.size + 1 + 1) (w.heap.size + 1 + 1 + 1) (.slice Ak m.length ck) (.slice Av m.length cv) (.int .i64 gn) (.bool gb) (.slice none 0 0) (.slice none 0 0))
  refine bodyPost_ret (v := .tuple #[.agg #[.slice Ak m.length ck, .slice Av m.length cv], .agg #[.int .i64 gn, .bool gb, .slice none 0 0, .slice none 0 0]]) (by simp [results, Try.results30, go_sem, d0, d1, d2, d3, d4, d5]) rfl ⟨_, _, _, _, by rw [HTL.out], ?_, ?_, ?_, ?_⟩
  · have h := HM.out.below HS1.out.bel
    exact ⟨h.ks.keep kp, h.vs.keep kp⟩
  · rw [HTL.out]; exact NS.nil _
  · rw [HTL.out]; exact NS.nil _
  · exact bl
set_option maxRecDepth 100000 in
set_option maxHeartbeats 6400000 in
theorem tstep_3 (xs : List Int) (tv : Value) (m : R) (kv vv : Value) (act key val : Int) (w : World) (ht : SlR w w.heap.size tv (xs.map i64v)) (hm : TT w kv vv m) (hr : Rises (rankOf xs) m) (hn : m.length ≤ 10000000000) (h : act = 3) :
    Calls Try.prog 30 #[.agg #[kv, vv], tv, .agg #[.int .i64 act, .int .i64 key, .int .i64 val]] w (StepPost w (rankOf xs) ⟨act, key, val⟩ m) := by
  obtain ⟨At, ct, rfl⟩ := ht.form
  rw [List.length_map] at *
  obtain ⟨Ak, ck, Av, cv, rfl, rfl⟩ := hm.forms
  obtain rfl := h
  have HS := Lib.hid (SB.mk' w (.slice Ak m.length ck) (.slice Av m.length cv) 3 key val)
  have HM := Lib.hid hm
  have HT := Lib.hid ht
  have HR := Lib.hid hr
  clear ht hm hr
  go_enter Try.func30, Try.ntmps30
  go_wp2_with fail
  generalize (((w.alloc (.cells #[.slice Ak m.length ck, .slice Av m.length cv] 42)).alloc (.cells #[.int .i64 3, .int .i64 key, .int .i64 val] 52)).alloc (.cells #[.slice none 0 0, .slice none 0 0] 42)).alloc (.cells #[.int .i64 0, .bool false, .slice none 0 0, .slice none 0 0] 50) = W at *
  have S1 := HS.out
  have c0 := S1.b0.cell 0
  have c1 := S1.b0.cell 1
  have d0 := S1.b2.cell 0
  have d1 := S1.b2.cell 1
  have df := S1.b2.frozen
  have d2 := S1.b3.cell 0
  have d3 := S1.b3.cell 1
  have d4 := S1.b3.cell 2
  have d5 := S1.b3.cell 3
  have dg := S1.b3.frozen
  have HS1 := Lib.hid S1
  clear S1
  go_wp2_with fail
  go_region_with (fail)
  all_goals
    go_wp2_with fail
    obtain ⟨kp, bl⟩ := HS1.out.fr (six_fr W (w.heap.size + 1 + 1) (w.heap.size + 1 + 1 + 1) (.slice Ak m.length ck) (.slice Av m.length cv) (.int .i64 m.length) (.bool false) (.slice none 0 0) (.slice none 0 0))
    refine bodyPost_ret (v := .tuple #[.agg #[.slice Ak m.length ck, .slice Av m.length cv], .agg #[.int .i64 m.length, .bool false, .slice none 0 0, .slice none 0 0]]) (by simp [results, Try.results30, go_sem, d0, d1, d2, d3, d4, d5]) rfl ⟨_, _, _, _, rfl, ?_, ?_, ?_, ?_⟩
    · have h := HM.out.below HS1.out.bel
      exact ⟨h.ks.keep (kp.trans (keepI_drew _)), h.vs.keep (kp.trans (keepI_drew _))⟩
    · exact NS.nil _
    · exact NS.nil _
    · exact bl.drew
set_option maxRecDepth 100000 in
set_option maxHeartbeats 6400000 in
theorem tstep_4 (xs : List Int) (tv : Value) (m : R) (kv vv : Value) (act key val : Int) (w : World) (ht : SlR w w.heap.size tv (xs.map i64v)) (hm : TT w kv vv m) (hr : Rises (rankOf xs) m) (hn : m.length ≤ 10000000000) (h : act = 4) :
    Calls Try.prog 30 #[.agg #[kv, vv], tv, .agg #[.int .i64 act, .int .i64 key, .int .i64 val]] w (StepPost w (rankOf xs) ⟨act, key, val⟩ m) := by
  obtain ⟨At, ct, rfl⟩ := ht.form
  rw [List.length_map] at *
  obtain ⟨Ak, ck, Av, cv, rfl, rfl⟩ := hm.forms
  obtain rfl := h
  have HS := Lib.hid (SB.mk' w (.slice Ak m.length ck) (.slice Av m.length cv) 4 key val)
  have HM := Lib.hid hm
  have HT := Lib.hid ht
  have HR := Lib.hid hr
  clear ht hm hr
  go_enter Try.func30, Try.ntmps30
  go_wp2_with fail
  generalize (((w.alloc (.cells #[.slice Ak m.length ck, .slice Av m.length cv] 42)).alloc (.cells #[.int .i64 4, .int .i64 key, .int .i64 val] 52)).alloc (.cells #[.slice none 0 0, .slice none 0 0] 42)).alloc (.cells #[.int .i64 0, .bool false, .slice none 0 0, .slice none 0 0] 50) = W at *
  have S1 := HS.out
  have c0 := S1.b0.cell 0
  have c1 := S1.b0.cell 1
  have d0 := S1.b2.cell 0
  have d1 := S1.b2.cell 1
  have df := S1.b2.frozen
  have d2 := S1.b3.cell 0
  have d3 := S1.b3.cell 1
  have d4 := S1.b3.cell 2
  have d5 := S1.b3.cell 3
  have dg := S1.b3.frozen
  have HS1 := Lib.hid S1
  clear S1
  go_wp2_with fail
  go_region_with (fail)
  all_goals
    go_wp2_with fail
    obtain ⟨kp, bl⟩ := HS1.out.fr (six_fr W (w.heap.size + 1 + 1) (w.heap.size + 1 + 1 + 1) (.slice Ak m.length ck) (.slice Av m.length cv) (.int .i64 0) (.bool false) (.slice Ak m.length ck) (.slice Av m.length cv))
    refine bodyPost_ret (v := .tuple #[.agg #[.slice Ak m.length ck, .slice Av m.length cv], .agg #[.int .i64 0, .bool false, .slice Ak m.length ck, .slice Av m.length cv]]) (by simp [results, Try.results30, go_sem, d0, d1, d2, d3, d4, d5]) rfl ⟨_, _, _, _, rfl, ?_, ?_, ?_, ?_⟩
    · have h := HM.out.below HS1.out.bel
      exact ⟨h.ks.keep (kp.trans (keepI_drew _)), h.vs.keep (kp.trans (keepI_drew _))⟩
    · exact (HM.out.below HS1.out.bel).ks.keep (kp.trans (keepI_drew _))
    · exact (HM.out.below HS1.out.bel).vs.keep (kp.trans (keepI_drew _))
    · exact bl.drew
set_option maxRecDepth 100000 in
set_option maxHeartbeats 6400000 in
theorem tstep_5 (xs : List Int) (tv : Value) (m : R) (kv vv : Value) (act key val : Int) (w : World) (ht : SlR w w.heap.size tv (xs.map i64v)) (hm : TT w kv vv m) (hr : Rises (rankOf xs) m) (hn : m.length ≤ 10000000000) (h : (act == 0) = false ∧ (act == 1) = false ∧ (act == 2) = false ∧ (act == 3) = false ∧ (act == 4) = false) :
    Calls Try.prog 30 #[.agg #[kv, vv], tv, .agg #[.int .i64 act, .int .i64 key, .int .i64 val]] w (StepPost w (rankOf xs) ⟨act, key, val⟩ m) := by
  obtain ⟨At, ct, rfl⟩ := ht.form
  rw [List.length_map] at *
  obtain ⟨Ak, ck, Av, cv, rfl, rfl⟩ := hm.forms
  obtain ⟨e0, e1, e2, e3, e4⟩ := h
  have HS := Lib.hid (SB.mk' w (.slice Ak m.length ck) (.slice Av m.length cv) act key val)
  have HM := Lib.hid hm
  have HT := Lib.hid ht
  have HR := Lib.hid hr
  clear ht hm hr
  go_enter Try.func30, Try.ntmps30
  go_wp2_with fail
  obtain ⟨B2, B3, bl⟩ := four_blk w (Obj.cells #[.slice Ak m.length ck, .slice Av m.length cv] 42) (Obj.cells #[.int .i64 act, .int .i64 key, .int .i64 val] 52) #[.slice Ak m.length ck, .slice Av m.length cv] #[.int .i64 0, .bool false, .slice none 0 0, .slice none 0 0]
  have d0 := B2.cell 0
  have d1 := B2.cell 1
  have d2 := B3.cell 0
  have d3 := B3.cell 1
  have d4 := B3.cell 2
  have d5 := B3.cell 3
  have n0 : ¬ act = 0 := by simpa using e0
  have n1 : ¬ act = 1 := by simpa using e1
  have n2 : ¬ act = 2 := by simpa using e2
  have n3 : ¬ act = 3 := by simpa using e3
  have n4 : ¬ act = 4 := by simpa using e4
  have HTL : tellT (rankOf xs) ⟨act, key, val⟩ m = .none := by unfold tellT; simp [n2, n3, n4]
  have HM2 : mapS (rankOf xs) ⟨act, key, val⟩ m = m := by unfold mapS; simp [n0, n1]
  refine bodyPost_ret (v := .tuple #[.agg #[.slice Ak m.length ck, .slice Av m.length cv], .agg #[.int .i64 0, .bool false, .slice none 0 0, .slice none 0 0]]) (by simp [results, Try.results30, go_sem, d0, d1, d2, d3, d4, d5]) rfl ⟨_, _, _, _, by rw [HTL]; rfl, ?_, ?_, ?_, ?_⟩
  · rw [HM2]
    exact HM.out.below bl
  · rw [HTL]; exact NS.nil _
  · rw [HTL]; exact NS.nil _
  · exact bl
theorem tstep_calls (xs : List Int) (tv : Value) (m : R) (kv vv : Value) (a : ActD) (w : World) (ht : SlR w w.heap.size tv (xs.map i64v)) (hm : TT w kv vv m) (hr : Rises (rankOf xs) m) (hn : m.length ≤ 10000000000) :
    Calls Try.prog 30 #[.agg #[kv, vv], tv, .agg #[.int .i64 a.act, .int .i64 a.key, .int .i64 a.val]] w (StepPost w (rankOf xs) a m) := by
  obtain ⟨act, key, val⟩ := a
  have dd : act = 0 ∨ act = 1 ∨ act = 2 ∨ act = 3 ∨ act = 4 ∨ ((act == 0) = false ∧ (act == 1) = false ∧ (act == 2) = false ∧ (act == 3) = false ∧ (act == 4) = false) := by
    simp only [beq_eq_false_iff_ne]; omega
  rcases dd with h | h | h | h | h | h
  · exact tstep_0 xs tv m kv vv act key val w ht hm hr hn h
  · exact tstep_1 xs tv m kv vv act key val w ht hm hr hn h
  · exact tstep_2 xs tv m kv vv act key val w ht hm hr hn h
  · exact tstep_3 xs tv m kv vv act key val w ht hm hr hn h
  · exact tstep_4 xs tv m kv vv act key val w ht hm hr hn h
  · exact tstep_5 xs tv m kv vv act key val w ht hm hr hn h
end Go.Proofs.Ytjbelfbfhcmgeaa.Kp
