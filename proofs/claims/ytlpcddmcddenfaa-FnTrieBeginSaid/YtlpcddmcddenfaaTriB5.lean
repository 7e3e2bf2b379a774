/- spec.Words: Step. -/
import Derived.Test.YtlpcddmcddenfaaTriB4
namespace Go.Proofs.Ytlpcddmcddenfaa.Kp
open Go.RowKit Tri

/-- what Step leaves. -/
def StepPost (w : World) (n : Nat) (e : Ending) (w' : World) : Prop := ∃ kv vv n' ks vs a b x A m c, e = .returned (.tuple #[.agg #[kv, vv], .agg #[.int .i64 a, .bool b, str x, .slice A m c]]) ∧ WV w' kv vv n' ks vs ∧ n' ≤ n + 1 ∧ Below w.heap.size w w'
theorem WV.frS {w w' : World} {kv vv : Value} {n : Nat} {ks : List Txt} {vs : List Int} {S : List Nat} (h : WV w kv vv n ks vs) (hf : Fr S w w') (hS : ∀ b ∈ S, ∃ cs T, Blk w b cs T ∧ T ≠ 9 ∧ T ≠ 3) : WV w' kv vv n ks vs :=
  ⟨h.k.keep (keep_fr hf fun b hb => by obtain ⟨cs, T, h1, h2, h3⟩ := hS b hb; exact ⟨cs, _, h1, h2⟩), h.v.keep (keep_fr hf fun b hb => by obtain ⟨cs, T, h1, h2, h3⟩ := hS b hb; exact ⟨cs, _, h1, h3⟩), h.kl, h.vl, h.fit⟩
/-- the fields told. -/
theorem step_end {w W : World} {b c : Nat} {cs ds : Array Value} {kv vv : Value} {n n' : Nat} {ks : List Txt} {vs : List Int} (hb : Blk W b cs 49) (hs : cs.size = 2) (hc : Blk W c ds 31) (hd : ds.size = 4) (hne : b ≠ c) (hB : Below w.heap.size w W) (hw : w.heap.size ≤ b) (hw' : w.heap.size ≤ c) (h : WV W kv vv n' ks vs) (hn : n' ≤ n + 1) (a : Int) (bb : Bool) (x : Txt) (A : Option Addr) (m k : Nat) :
    ∀ W', W' = ((((((W.setCell ⟨b, 0, none⟩ kv).setCell ⟨b, 1, none⟩ vv).setCell ⟨c, 0, none⟩ (.int .i64 a)).setCell ⟨c, 1, none⟩ (.bool bb)).setCell ⟨c, 2, none⟩ (str x)).setCell ⟨c, 3, none⟩ (.slice A m k)) →
    (W'.cell? ⟨b, 0, none⟩ = some kv ∧ W'.cell? ⟨b, 1, none⟩ = some vv ∧ W'.cell? ⟨c, 0, none⟩ = some (.int .i64 a) ∧ W'.cell? ⟨c, 1, none⟩ = some (.bool bb) ∧ W'.cell? ⟨c, 2, none⟩ = some (str x) ∧ W'.cell? ⟨c, 3, none⟩ = some (.slice A m k)) ∧
    StepPost w n (.returned (.tuple #[.agg #[kv, vv], .agg #[.int .i64 a, .bool bb, str x, .slice A m k]])) W' := by
  intro W' hW'
  have hb2 := (((((hb.set 0 kv).set 1 vv).far (c := c) (i := 0) (v := .int .i64 a) hne).far (c := c) (i := 1) (v := .bool bb) hne).far (c := c) (i := 2) (v := str x) hne).far (c := c) (i := 3) (v := .slice A m k) hne
  have hc2 := ((((((hc.far (c := b) (i := 0) (v := kv) (Ne.symm hne)).far (c := b) (i := 1) (v := vv) (Ne.symm hne)).set 0 (.int .i64 a)).set 1 (.bool bb)).set 2 (str x)).set 3 (.slice A m k))
  have hf : Fr [b, c] W W' := by
    rw [hW']
    exact (((((Fr.setCell W b 0 _ (by simp)).comp (Fr.setCell _ b 1 _ (by simp))).comp (Fr.setCell _ c 0 _ (by simp))).comp (Fr.setCell _ c 1 _ (by simp))).comp (Fr.setCell _ c 2 _ (by simp))).comp (Fr.setCell _ c 3 _ (by simp))
  rw [← hW'] at hb2 hc2
  refine ⟨⟨?_, ?_, ?_, ?_, ?_, ?_⟩, kv, vv, n', ks, vs, a, bb, x, A, m, k, rfl, h.frS hf (fun y hy => ?_), hn, hB.trans (hf.below (fun y hy => ?_) hB.size)⟩
  · rw [hb2.cell 0]; simp [hs]
  · rw [hb2.cell 1]; simp [hs]
  · rw [hc2.cell 0]; simp [hd]
  · rw [hc2.cell 1]; simp [hd]
  · rw [hc2.cell 2]; simp [hd]
  · rw [hc2.cell 3]; simp [hd]
  · simp only [List.mem_cons, List.not_mem_nil, or_false] at hy
    rcases hy with rfl | rfl
    · exact ⟨_, _, hb, by decide, by decide⟩
    · exact ⟨_, _, hc, by decide, by decide⟩
  · simp only [List.mem_cons, List.not_mem_nil, or_false] at hy
    rcases hy with rfl | rfl <;> assumption
set_option maxRecDepth 100000 in
set_option maxHeartbeats 6400000 in
theorem wstep_calls (kv vv : Value) (n : Nat) (ks : List Txt) (vs : List Int) (act : Int) (key : Txt) (val : Int) (w : World) (h : WV w kv vv n ks vs) (hn : n ≤ 4294967295) (hk : key.length ≤ 2147483647) :
    Calls Try.prog 23 #[.agg #[kv, vv], .agg #[.int .i64 act, str key, .int .i64 val]] w (StepPost w n) := by
  obtain ⟨Ak, ck, rfl⟩ := h.k.form
  obtain ⟨Av, cv, rfl⟩ := h.v.form
  have hkl := h.kl
  have hvl := h.vl
  replace h : WV w (.slice Ak n ck) (.slice Av n cv) n ks vs := by have h' := h; rw [hkl, hvl] at h'; exact h'
  rw [hkl, hvl]
  obtain ⟨W, hW⟩ : ∃ W, W = (((w.alloc (.cells #[.slice Ak n ck, .slice Av n cv] 49)).alloc (.cells #[.int .i64 act, str key, .int .i64 val] 28)).alloc (.cells #[.slice none 0 0, .slice none 0 0] 49)).alloc (.cells #[.int .i64 0, .bool false, str [], .slice none 0 0] 31) := ⟨_, rfl⟩
  have hb : Below w.heap.size w W := by rw [hW]; exact ((((Below.refl _ w).alloc (Nat.le_refl _) _).alloc (by simp) _).alloc (by simp; omega) _).alloc (by simp; omega) _
  have hx0 : Blk W (w.heap.size) #[.slice Ak n ck, .slice Av n cv] 49 := by rw [hW]; exact (((Blk.new _ _ _).alloc _).alloc _).alloc _
  have hx1 : Blk W (w.heap.size + 1) #[.int .i64 act, str key, .int .i64 val] 28 := by
    rw [hW]
    have := Blk.new (w.alloc (.cells #[.slice Ak n ck, .slice Av n cv] 49)) #[.int .i64 act, str key, .int .i64 val] 28
    rw [show (w.alloc (.cells #[.slice Ak n ck, .slice Av n cv] 49)).heap.size = w.heap.size + 1 by simp] at this
    exact (this.alloc _).alloc _
  have hx2 : Blk W (w.heap.size + 2) #[.slice none 0 0, .slice none 0 0] 49 := by
    rw [hW]
    have := Blk.new ((w.alloc (.cells #[.slice Ak n ck, .slice Av n cv] 49)).alloc (.cells #[.int .i64 act, str key, .int .i64 val] 28)) #[.slice none 0 0, .slice none 0 0] 49
    rw [show ((w.alloc (.cells #[.slice Ak n ck, .slice Av n cv] 49)).alloc (.cells #[.int .i64 act, str key, .int .i64 val] 28)).heap.size = w.heap.size + 2 by simp] at this
    exact this.alloc _
  have hx3 : Blk W (w.heap.size + 3) #[.int .i64 0, .bool false, str [], .slice none 0 0] 31 := by
    rw [hW]
    have := Blk.new (((w.alloc (.cells #[.slice Ak n ck, .slice Av n cv] 49)).alloc (.cells #[.int .i64 act, str key, .int .i64 val] 28)).alloc (.cells #[.slice none 0 0, .slice none 0 0] 49)) #[.int .i64 0, .bool false, str [], .slice none 0 0] 31
    rwa [show (((w.alloc (.cells #[.slice Ak n ck, .slice Av n cv] 49)).alloc (.cells #[.int .i64 act, str key, .int .i64 val] 28)).alloc (.cells #[.slice none 0 0, .slice none 0 0] 49)).heap.size = w.heap.size + 3 by simp] at this
  have HX := Lib.hid (And.intro hx0 (And.intro hx1 (And.intro hx2 hx3)))
  have HH := Lib.hid (And.intro (h.below hb) hb)
  have HW := Lib.hid hW
  have c0 : W.cell? ⟨w.heap.size, 0, none⟩ = some (.slice Ak n ck) := hx0.cell 0
  have c1 : W.cell? ⟨w.heap.size, 1, none⟩ = some (.slice Av n cv) := hx0.cell 1
  have d0 : W.cell? ⟨w.heap.size + 1, 0, none⟩ = some (.int .i64 act) := hx1.cell 0
  have d1 : W.cell? ⟨w.heap.size + 1, 1, none⟩ = some (str key) := hx1.cell 1
  have d2 : W.cell? ⟨w.heap.size + 1, 2, none⟩ = some (.int .i64 val) := hx1.cell 2
  have HV := Lib.hid (And.intro hkl hvl)
  clear h hb hx0 hx1 hx2 hx3 hW hkl hvl
  go_enter Try.func23, Try.ntmps23
  go_upto_region 1 with (fail)
  change Code.wp _ _ _ _ ((((w.alloc (.cells #[.slice Ak n ck, .slice Av n cv] 49)).alloc (.cells #[.int .i64 act, str key, .int .i64 val] 28)).alloc (.cells #[.slice none 0 0, .slice none 0 0] 49)).alloc (.cells #[.int .i64 0, .bool false, str [], .slice none 0 0] 31))
  rw [← HW.out]
  have bl3 : w.heap.size + 3 < W.heap.size := HX.out.2.2.2.lt
  have dd : act = 0 ∨ act = 1 ∨ act = 2 ∨ act = 3 ∨ act = 4 ∨ act = 5 ∨ act = 6 ∨ act = 7 ∨ ((act == 0) = false ∧ (act == 1) = false ∧ (act == 2) = false ∧ (act == 3) = false ∧ (act == 4) = false ∧ (act == 5) = false ∧ (act == 6) = false ∧ (act == 7) = false) := by
    simp only [beq_eq_false_iff_ne]; omega
  refine or9 dd ?k0 ?k1 ?k2 ?k3 ?k4 ?k5 ?k6 ?k7 ?k8 <;> (clear dd; intro dd)
  case k0 =>
    subst dd
    have HC := Lib.hid (wput_calls _ _ n ks vs key val W HH.out.1 (by omega) hk)
    go_wp2_with fail
    refine HC.out.mono ?_
    rintro e w2 ⟨kv', vv', n', ks', vs', rfl, hv, hn', b2⟩
    obtain ⟨A7, c7, rfl⟩ := hv.k.form
    obtain ⟨A8, c8, rfl⟩ := hv.v.form
    replace hv : WV w2 (.slice A7 n' c7) (.slice A8 n' c8) n' ks' vs' := by have h' := hv; rw [hv.kl, hv.vl] at h'; exact h'
    have q1 := hv.kl
    have q2 := hv.vl
    rw [q1, q2]
    have HV2 := Lib.hid (And.intro hv hn')
    clear q1 q2
    have y0 := HX.out.1.below b2 (by omega)
    have y2 := HX.out.2.2.1.below b2 (by omega)
    have y3 := HX.out.2.2.2.below b2 (by omega)
    have e0 : w2.cell? ⟨w.heap.size, 0, none⟩ = some (.slice Ak n ck) := y0.cell 0
    have e1 : w2.cell? ⟨w.heap.size, 1, none⟩ = some (.slice Av n cv) := y0.cell 1
    have f0 : w2.cell? ⟨w.heap.size + 2, 0, none⟩ = some (.slice none 0 0) := y2.cell 0
    have f1 : w2.cell? ⟨w.heap.size + 2, 1, none⟩ = some (.slice none 0 0) := y2.cell 1
    have g0 : w2.cell? ⟨w.heap.size + 3, 0, none⟩ = some (.int .i64 0) := y3.cell 0
    have g1 : w2.cell? ⟨w.heap.size + 3, 1, none⟩ = some (.bool false) := y3.cell 1
    have g2 : w2.cell? ⟨w.heap.size + 3, 2, none⟩ = some (str []) := y3.cell 2
    have g3 : w2.cell? ⟨w.heap.size + 3, 3, none⟩ = some (.slice none 0 0) := y3.cell 3
    have gf := y2.frozen
    have hf := y3.frozen
    have HY := Lib.hid (And.intro y2 (And.intro y3 (And.intro (HH.out.2.trans (b2.mono HH.out.2.size)) (HH.out.1.below b2))))
    clear y0 y2 y3 b2
    clear hv hn' HC
    go_wp2_with fail
    obtain ⟨⟨z0, z1, z2, z3, z4, z5⟩, hP⟩ := step_end (w := w) (n := n) HY.out.1 rfl HY.out.2.1 rfl (by omega) HY.out.2.2.1 (by omega) (by omega) HV2.out.1 (by have := HV2.out.2; omega) 0 false [] none 0 0 _ rfl
    refine bodyPost_ret (v := .tuple #[.agg #[.slice A7 n' c7, .slice A8 n' c8], .agg #[.int .i64 (0), .bool (false), str ([]), .slice none 0 0]]) (by simp [results, Try.results23, go_sem, z0, z1, z2, z3, z4, z5]) rfl hP
  case k1 =>
    subst dd
    have HC := Lib.hid (wrem_calls _ _ n ks vs key W HH.out.1 (by omega))
    go_wp2_with fail
    refine HC.out.mono ?_
    rintro e w2 ⟨kv', vv', n', ks', vs', rfl, hv, hn', b2⟩
    obtain ⟨A7, c7, rfl⟩ := hv.k.form
    obtain ⟨A8, c8, rfl⟩ := hv.v.form
    replace hv : WV w2 (.slice A7 n' c7) (.slice A8 n' c8) n' ks' vs' := by have h' := hv; rw [hv.kl, hv.vl] at h'; exact h'
    have q1 := hv.kl
    have q2 := hv.vl
    rw [q1, q2]
    have HV2 := Lib.hid (And.intro hv hn')
    clear q1 q2
    have y0 := HX.out.1.below b2 (by omega)
    have y2 := HX.out.2.2.1.below b2 (by omega)
    have y3 := HX.out.2.2.2.below b2 (by omega)
    have e0 : w2.cell? ⟨w.heap.size, 0, none⟩ = some (.slice Ak n ck) := y0.cell 0
    have e1 : w2.cell? ⟨w.heap.size, 1, none⟩ = some (.slice Av n cv) := y0.cell 1
    have f0 : w2.cell? ⟨w.heap.size + 2, 0, none⟩ = some (.slice none 0 0) := y2.cell 0
    have f1 : w2.cell? ⟨w.heap.size + 2, 1, none⟩ = some (.slice none 0 0) := y2.cell 1
    have g0 : w2.cell? ⟨w.heap.size + 3, 0, none⟩ = some (.int .i64 0) := y3.cell 0
    have g1 : w2.cell? ⟨w.heap.size + 3, 1, none⟩ = some (.bool false) := y3.cell 1
    have g2 : w2.cell? ⟨w.heap.size + 3, 2, none⟩ = some (str []) := y3.cell 2
    have g3 : w2.cell? ⟨w.heap.size + 3, 3, none⟩ = some (.slice none 0 0) := y3.cell 3
    have gf := y2.frozen
    have hf := y3.frozen
    have HY := Lib.hid (And.intro y2 (And.intro y3 (And.intro (HH.out.2.trans (b2.mono HH.out.2.size)) (HH.out.1.below b2))))
    clear y0 y2 y3 b2
    clear hv hn' HC
    go_wp2_with fail
    obtain ⟨⟨z0, z1, z2, z3, z4, z5⟩, hP⟩ := step_end (w := w) (n := n) HY.out.1 rfl HY.out.2.1 rfl (by omega) HY.out.2.2.1 (by omega) (by omega) HV2.out.1 (by have := HV2.out.2; omega) 0 false [] none 0 0 _ rfl
    refine bodyPost_ret (v := .tuple #[.agg #[.slice A7 n' c7, .slice A8 n' c8], .agg #[.int .i64 (0), .bool (false), str ([]), .slice none 0 0]]) (by simp [results, Try.results23, go_sem, z0, z1, z2, z3, z4, z5]) rfl hP
  case k2 =>
    subst dd
    have HC := Lib.hid (wget_calls _ _ n ks vs key W HH.out.1 (by omega))
    go_wp2_with fail
    refine HC.out.mono ?_
    rintro e w2 ⟨x, bv, rfl, hbv, b2⟩
    have y0 := HX.out.1.below b2 (by omega)
    have y2 := HX.out.2.2.1.below b2 (by omega)
    have y3 := HX.out.2.2.2.below b2 (by omega)
    have e0 : w2.cell? ⟨w.heap.size, 0, none⟩ = some (.slice Ak n ck) := y0.cell 0
    have e1 : w2.cell? ⟨w.heap.size, 1, none⟩ = some (.slice Av n cv) := y0.cell 1
    have f0 : w2.cell? ⟨w.heap.size + 2, 0, none⟩ = some (.slice none 0 0) := y2.cell 0
    have f1 : w2.cell? ⟨w.heap.size + 2, 1, none⟩ = some (.slice none 0 0) := y2.cell 1
    have g0 : w2.cell? ⟨w.heap.size + 3, 0, none⟩ = some (.int .i64 0) := y3.cell 0
    have g1 : w2.cell? ⟨w.heap.size + 3, 1, none⟩ = some (.bool false) := y3.cell 1
    have g2 : w2.cell? ⟨w.heap.size + 3, 2, none⟩ = some (str []) := y3.cell 2
    have g3 : w2.cell? ⟨w.heap.size + 3, 3, none⟩ = some (.slice none 0 0) := y3.cell 3
    have gf := y2.frozen
    have hf := y3.frozen
    have HY := Lib.hid (And.intro y2 (And.intro y3 (And.intro (HH.out.2.trans (b2.mono HH.out.2.size)) (HH.out.1.below b2))))
    clear y0 y2 y3 b2
    clear HC
    rcases hbv with rfl | rfl
    · go_wp2_with fail
      obtain ⟨⟨z0, z1, z2, z3, z4, z5⟩, hP⟩ := step_end (w := w) (n := n) HY.out.1 rfl HY.out.2.1 rfl (by omega) HY.out.2.2.1 (by omega) (by omega) HY.out.2.2.2 (by omega) x false [] none 0 0 _ rfl
      refine bodyPost_ret (v := .tuple #[.agg #[.slice Ak n ck, .slice Av n cv], .agg #[.int .i64 (x), .bool (false), str ([]), .slice none 0 0]]) (by simp [results, Try.results23, go_sem, z0, z1, z2, z3, z4, z5]) rfl hP
    · go_wp2_with fail
      obtain ⟨⟨z0, z1, z2, z3, z4, z5⟩, hP⟩ := step_end (w := w) (n := n) HY.out.1 rfl HY.out.2.1 rfl (by omega) HY.out.2.2.1 (by omega) (by omega) HY.out.2.2.2 (by omega) x true [] none 0 0 _ rfl
      refine bodyPost_ret (v := .tuple #[.agg #[.slice Ak n ck, .slice Av n cv], .agg #[.int .i64 (x), .bool (true), str ([]), .slice none 0 0]]) (by simp [results, Try.results23, go_sem, z0, z1, z2, z3, z4, z5]) rfl hP
  case k3 =>
    subst dd
    have HC := Lib.hid (wget_calls _ _ n ks vs key W HH.out.1 (by omega))
    go_wp2_with fail
    refine HC.out.mono ?_
    rintro e w2 ⟨x, bv, rfl, hbv, b2⟩
    have y0 := HX.out.1.below b2 (by omega)
    have y2 := HX.out.2.2.1.below b2 (by omega)
    have y3 := HX.out.2.2.2.below b2 (by omega)
    have e0 : w2.cell? ⟨w.heap.size, 0, none⟩ = some (.slice Ak n ck) := y0.cell 0
    have e1 : w2.cell? ⟨w.heap.size, 1, none⟩ = some (.slice Av n cv) := y0.cell 1
    have f0 : w2.cell? ⟨w.heap.size + 2, 0, none⟩ = some (.slice none 0 0) := y2.cell 0
    have f1 : w2.cell? ⟨w.heap.size + 2, 1, none⟩ = some (.slice none 0 0) := y2.cell 1
    have g0 : w2.cell? ⟨w.heap.size + 3, 0, none⟩ = some (.int .i64 0) := y3.cell 0
    have g1 : w2.cell? ⟨w.heap.size + 3, 1, none⟩ = some (.bool false) := y3.cell 1
    have g2 : w2.cell? ⟨w.heap.size + 3, 2, none⟩ = some (str []) := y3.cell 2
    have g3 : w2.cell? ⟨w.heap.size + 3, 3, none⟩ = some (.slice none 0 0) := y3.cell 3
    have gf := y2.frozen
    have hf := y3.frozen
    have HY := Lib.hid (And.intro y2 (And.intro y3 (And.intro (HH.out.2.trans (b2.mono HH.out.2.size)) (HH.out.1.below b2))))
    clear y0 y2 y3 b2
    clear HC
    rcases hbv with rfl | rfl
    · go_wp2_with fail
      obtain ⟨⟨z0, z1, z2, z3, z4, z5⟩, hP⟩ := step_end (w := w) (n := n) HY.out.1 rfl HY.out.2.1 rfl (by omega) HY.out.2.2.1 (by omega) (by omega) HY.out.2.2.2 (by omega) 0 false [] none 0 0 _ rfl
      refine bodyPost_ret (v := .tuple #[.agg #[.slice Ak n ck, .slice Av n cv], .agg #[.int .i64 (0), .bool (false), str ([]), .slice none 0 0]]) (by simp [results, Try.results23, go_sem, z0, z1, z2, z3, z4, z5]) rfl hP
    · go_wp2_with fail
      obtain ⟨⟨z0, z1, z2, z3, z4, z5⟩, hP⟩ := step_end (w := w) (n := n) HY.out.1 rfl HY.out.2.1 rfl (by omega) HY.out.2.2.1 (by omega) (by omega) HY.out.2.2.2 (by omega) 0 true [] none 0 0 _ rfl
      refine bodyPost_ret (v := .tuple #[.agg #[.slice Ak n ck, .slice Av n cv], .agg #[.int .i64 (0), .bool (true), str ([]), .slice none 0 0]]) (by simp [results, Try.results23, go_sem, z0, z1, z2, z3, z4, z5]) rfl hP
  case k4 =>
    subst dd
    go_upto_region 13 with (fail)
    refine wp_region_G (fun w' : World => w'.cell? ⟨w.heap.size, 0, none⟩ = some (.slice Ak n ck) ∧ w'.cell? ⟨w.heap.size, 1, none⟩ = some (.slice Av n cv) ∧ w'.cell? ⟨w.heap.size + 1, 1, none⟩ = some (str key)) (fun _ => false) (by kernel_rfl) ?_
    have hS0 : (fun w' : World => w'.cell? ⟨w.heap.size, 0, none⟩ = some (.slice Ak n ck) ∧ w'.cell? ⟨w.heap.size, 1, none⟩ = some (.slice Av n cv) ∧ w'.cell? ⟨w.heap.size + 1, 1, none⟩ = some (str key)) W.drew := ⟨c0, c1, d1⟩
    refine wpAnyG_take (i := 0) (v := ?_) rfl rfl (by kernel_rfl) (by kernel_rfl) (by kernel_rfl) (by kernel_rfl) (fun _ _ _ h => h) (by rfl) ?_ hS0 ?_
    rotate_left 1
    · intro w' hSw; (try dsimp only at hSw); go_simp; (try with_reducible rfl)
    simp only [Act.put, List.getElem_toArray, List.getElem_cons_succ, List.getElem_cons_zero, List.setIfInBounds_toArray, List.set_cons_zero, List.set_cons_succ]
    refine wpAnyG_take (i := 1) (v := ?_) rfl rfl (by kernel_rfl) (by kernel_rfl) (by kernel_rfl) (by kernel_rfl) (fun _ _ _ h => h) (by rfl) ?_ hS0 ?_
    rotate_left 1
    · intro w' hSw; (try dsimp only at hSw); go_simp; (try with_reducible rfl)
    simp only [Act.put, List.getElem_toArray, List.getElem_cons_succ, List.getElem_cons_zero, List.setIfInBounds_toArray, List.set_cons_zero, List.set_cons_succ]
    refine wpAnyG_take (i := 2) (v := ?_) rfl rfl (by kernel_rfl) (by kernel_rfl) (by kernel_rfl) (by kernel_rfl) (fun _ _ _ h => h) (by rfl) ?_ hS0 ?_
    rotate_left 1
    · intro w' hSw; (try dsimp only at hSw); go_simp; (try with_reducible rfl)
    simp only [Act.put, List.getElem_toArray, List.getElem_cons_succ, List.getElem_cons_zero, List.setIfInBounds_toArray, List.set_cons_zero, List.set_cons_succ]
    refine wpAnyG_take (i := 3) (v := ?_) rfl rfl (by kernel_rfl) (by kernel_rfl) (by kernel_rfl) (by kernel_rfl) (fun _ _ _ h => h) (by rfl) ?_ hS0 ?_
    rotate_left 1
    · intro w' hSw; (try dsimp only at hSw); go_simp; (try with_reducible rfl)
    simp only [Act.put, List.getElem_toArray, List.getElem_cons_succ, List.getElem_cons_zero, List.setIfInBounds_toArray, List.set_cons_zero, List.set_cons_succ]
    have b2 : Below W.heap.size W W.drew := Below.drewN W 1
    generalize W.drew = w2 at *
    have e2 : w2.cell? ⟨w.heap.size + 1, 1, none⟩ = some (str key) := hS0.2.2
    have y0 := HX.out.1.below b2 (by omega)
    have y2 := HX.out.2.2.1.below b2 (by omega)
    have y3 := HX.out.2.2.2.below b2 (by omega)
    have e0 : w2.cell? ⟨w.heap.size, 0, none⟩ = some (.slice Ak n ck) := y0.cell 0
    have e1 : w2.cell? ⟨w.heap.size, 1, none⟩ = some (.slice Av n cv) := y0.cell 1
    have f0 : w2.cell? ⟨w.heap.size + 2, 0, none⟩ = some (.slice none 0 0) := y2.cell 0
    have f1 : w2.cell? ⟨w.heap.size + 2, 1, none⟩ = some (.slice none 0 0) := y2.cell 1
    have g0 : w2.cell? ⟨w.heap.size + 3, 0, none⟩ = some (.int .i64 0) := y3.cell 0
    have g1 : w2.cell? ⟨w.heap.size + 3, 1, none⟩ = some (.bool false) := y3.cell 1
    have g2 : w2.cell? ⟨w.heap.size + 3, 2, none⟩ = some (str []) := y3.cell 2
    have g3 : w2.cell? ⟨w.heap.size + 3, 3, none⟩ = some (.slice none 0 0) := y3.cell 3
    have gf := y2.frozen
    have hf := y3.frozen
    have HY := Lib.hid (And.intro y2 (And.intro y3 (And.intro (HH.out.2.trans (b2.mono HH.out.2.size)) (HH.out.1.below b2))))
    clear y0 y2 y3 b2
    have r0 : ∀ u : World, Fr [w.heap.size + 2, w.heap.size + 3] w2 u → (fun w' : World => w'.cell? ⟨w.heap.size, 0, none⟩ = some (.slice Ak n ck) ∧ w'.cell? ⟨w.heap.size, 1, none⟩ = some (.slice Av n cv) ∧ w'.cell? ⟨w.heap.size + 1, 1, none⟩ = some (str key)) u := fun u hu => ⟨hu.cell e0 (by simp), hu.cell e1 (by simp), hu.cell e2 (by simp)⟩
    refine wpAnyG_ready (rs := [4]) (by kernel_rfl) (by simp) (AllReadyG.cons rfl (fun K1 hK1 => ?_) AllReadyG.nil)
    go_simp
    refine hK1.out _ _ (fun _ => r0 _ ((Fr.setCell w2 _ 0 _ (by simp)).comp (Fr.setCell _ _ 1 _ (by simp)))) ?_
    (try simp only [Act.put, List.getElem_toArray, List.getElem_cons_succ, List.getElem_cons_zero, List.setIfInBounds_toArray, List.set_cons_zero, List.set_cons_succ])
    refine wpAnyG_ready (rs := [5]) (by kernel_rfl) (by simp) (AllReadyG.cons rfl (fun K2 hK2 => ?_) AllReadyG.nil)
    go_simp
    refine hK2.out _ _ (fun _ => r0 _ ((((((Fr.setCell w2 _ 0 _ (by simp)).comp (Fr.setCell _ _ 1 _ (by simp))).comp (Fr.setCell _ _ 0 _ (by simp))).comp (Fr.setCell _ _ 1 _ (by simp))).comp (Fr.setCell _ _ 2 _ (by simp))).comp (Fr.setCell _ _ 3 _ (by simp)))) ?_
    refine wpAnyG_done (by kernel_rfl) ?_ _
    clear r0
    go_wp2_with fail
    obtain ⟨⟨z0, z1, z2, z3, z4, z5⟩, hP⟩ := step_end (w := w) (n := n) HY.out.1 rfl HY.out.2.1 rfl (by omega) HY.out.2.2.1 (by omega) (by omega) HY.out.2.2.2 (by omega) 0 false [] Ak n ck _ rfl
    refine bodyPost_ret (v := .tuple #[.agg #[.slice Ak n ck, .slice Av n cv], .agg #[.int .i64 (0), .bool (false), str ([]), .slice Ak n ck]]) (by simp [results, Try.results23, go_sem, z0, z1, z2, z3, z4, z5]) rfl hP
  case k5 =>
    subst dd
    go_upto_region 15 with (fail)
    refine wp_region_G (fun w' : World => w'.cell? ⟨w.heap.size, 0, none⟩ = some (.slice Ak n ck) ∧ w'.cell? ⟨w.heap.size, 1, none⟩ = some (.slice Av n cv) ∧ w'.cell? ⟨w.heap.size + 1, 1, none⟩ = some (str key)) (fun _ => false) (by kernel_rfl) ?_
    have hS0 : (fun w' : World => w'.cell? ⟨w.heap.size, 0, none⟩ = some (.slice Ak n ck) ∧ w'.cell? ⟨w.heap.size, 1, none⟩ = some (.slice Av n cv) ∧ w'.cell? ⟨w.heap.size + 1, 1, none⟩ = some (str key)) W.drew := ⟨c0, c1, d1⟩
    refine wpAnyG_take (i := 0) (v := ?_) rfl rfl (by kernel_rfl) (by kernel_rfl) (by kernel_rfl) (by kernel_rfl) (fun _ _ _ h => h) (by rfl) ?_ hS0 ?_
    rotate_left 1
    · intro w' hSw; (try dsimp only at hSw); go_simp; (try with_reducible rfl)
    simp only [Act.put, List.getElem_toArray, List.getElem_cons_succ, List.getElem_cons_zero, List.setIfInBounds_toArray, List.set_cons_zero, List.set_cons_succ]
    refine wpAnyG_take (i := 1) (v := ?_) rfl rfl (by kernel_rfl) (by kernel_rfl) (by kernel_rfl) (by kernel_rfl) (fun _ _ _ h => h) (by rfl) ?_ hS0 ?_
    rotate_left 1
    · intro w' hSw; (try dsimp only at hSw); go_simp; (try with_reducible rfl)
    simp only [Act.put, List.getElem_toArray, List.getElem_cons_succ, List.getElem_cons_zero, List.setIfInBounds_toArray, List.set_cons_zero, List.set_cons_succ]
    refine wpAnyG_take (i := 2) (v := ?_) rfl rfl (by kernel_rfl) (by kernel_rfl) (by kernel_rfl) (by kernel_rfl) (fun _ _ _ h => h) (by rfl) ?_ hS0 ?_
    rotate_left 1
    · intro w' hSw; (try dsimp only at hSw); go_simp; (try with_reducible rfl)
    simp only [Act.put, List.getElem_toArray, List.getElem_cons_succ, List.getElem_cons_zero, List.setIfInBounds_toArray, List.set_cons_zero, List.set_cons_succ]
    refine wpAnyG_take (i := 3) (v := ?_) rfl rfl (by kernel_rfl) (by kernel_rfl) (by kernel_rfl) (by kernel_rfl) (fun _ _ _ h => h) (by rfl) ?_ hS0 ?_
    rotate_left 1
    · intro w' hSw; (try dsimp only at hSw); go_simp; (try with_reducible rfl)
    simp only [Act.put, List.getElem_toArray, List.getElem_cons_succ, List.getElem_cons_zero, List.setIfInBounds_toArray, List.set_cons_zero, List.set_cons_succ]
    refine wpAnyG_take (i := 4) (v := ?_) rfl rfl (by kernel_rfl) (by kernel_rfl) (by kernel_rfl) (by kernel_rfl) (fun _ _ _ h => h) (by rfl) ?_ hS0 ?_
    rotate_left 1
    · intro w' hSw; (try dsimp only at hSw); go_simp; (try with_reducible rfl)
    simp only [Act.put, List.getElem_toArray, List.getElem_cons_succ, List.getElem_cons_zero, List.setIfInBounds_toArray, List.set_cons_zero, List.set_cons_succ]
    have HDR := Lib.hid (show Below W.heap.size W W.drew from Below.drewN W 1)
    refine wpAnyG_ready (rs := [5]) (by kernel_rfl) (by simp) (AllReadyG.cons rfl (fun K5 hK5 => ?_) AllReadyG.nil)
    refine step_callw (by rfl) 18 #[.slice Ak n ck, str key] (by go_simp) ((with_calls _ ks key W.drew (HH.out.1.k.below HDR.out) (by have := HH.out.1.kl; omega) (fun x hx => Nat.le_trans (HH.out.1.fit x hx) (by omega)) (by omega)).mono ?_)
    rintro e w2 ⟨v4, rfl, o4, b4⟩
    refine ⟨_, rfl, ?_⟩
    have b2 := HDR.out.trans b4
    obtain ⟨A4, c4, e4⟩ := (own_NX (f := str) rfl o4).form
    obtain ⟨m4, hm4⟩ : ∃ m4, m4 = (ks.filter (fun x => key.isPrefixOf x)).length := ⟨_, rfl⟩
    rw [← hm4] at e4
    subst e4
    clear o4 b4 hm4
    have e2 : w2.cell? ⟨w.heap.size + 1, 1, none⟩ = some (str key) := (HX.out.2.1.below b2 (by omega)).cell 1
    have y0 := HX.out.1.below b2 (by omega)
    have y2 := HX.out.2.2.1.below b2 (by omega)
    have y3 := HX.out.2.2.2.below b2 (by omega)
    have e0 : w2.cell? ⟨w.heap.size, 0, none⟩ = some (.slice Ak n ck) := y0.cell 0
    have e1 : w2.cell? ⟨w.heap.size, 1, none⟩ = some (.slice Av n cv) := y0.cell 1
    have f0 : w2.cell? ⟨w.heap.size + 2, 0, none⟩ = some (.slice none 0 0) := y2.cell 0
    have f1 : w2.cell? ⟨w.heap.size + 2, 1, none⟩ = some (.slice none 0 0) := y2.cell 1
    have g0 : w2.cell? ⟨w.heap.size + 3, 0, none⟩ = some (.int .i64 0) := y3.cell 0
    have g1 : w2.cell? ⟨w.heap.size + 3, 1, none⟩ = some (.bool false) := y3.cell 1
    have g2 : w2.cell? ⟨w.heap.size + 3, 2, none⟩ = some (str []) := y3.cell 2
    have g3 : w2.cell? ⟨w.heap.size + 3, 3, none⟩ = some (.slice none 0 0) := y3.cell 3
    have gf := y2.frozen
    have hf := y3.frozen
    have HY := Lib.hid (And.intro y2 (And.intro y3 (And.intro (HH.out.2.trans (b2.mono HH.out.2.size)) (HH.out.1.below b2))))
    clear y0 y2 y3 b2
    have r0 : ∀ u : World, Fr [w.heap.size + 2, w.heap.size + 3] w2 u → (fun w' : World => w'.cell? ⟨w.heap.size, 0, none⟩ = some (.slice Ak n ck) ∧ w'.cell? ⟨w.heap.size, 1, none⟩ = some (.slice Av n cv) ∧ w'.cell? ⟨w.heap.size + 1, 1, none⟩ = some (str key)) u := fun u hu => ⟨hu.cell e0 (by simp), hu.cell e1 (by simp), hu.cell e2 (by simp)⟩
    have hS0 : (fun w' : World => w'.cell? ⟨w.heap.size, 0, none⟩ = some (.slice Ak n ck) ∧ w'.cell? ⟨w.heap.size, 1, none⟩ = some (.slice Av n cv) ∧ w'.cell? ⟨w.heap.size + 1, 1, none⟩ = some (str key)) w2 := ⟨e0, e1, e2⟩
    refine hK5.out _ _ (fun _ => hS0) ?_
    simp only [Act.put, List.getElem_toArray, List.getElem_cons_succ, List.getElem_cons_zero, List.setIfInBounds_toArray, List.set_cons_zero, List.set_cons_succ]
    refine wpAnyG_take (i := 6) (v := ?_) rfl rfl (by kernel_rfl) (by kernel_rfl) (by kernel_rfl) (by kernel_rfl) (fun _ _ _ h => h) (by rfl) ?_ hS0 ?_
    rotate_left 1
    · intro w' hSw; (try dsimp only at hSw); go_simp; (try with_reducible rfl)
    simp only [Act.put, List.getElem_toArray, List.getElem_cons_succ, List.getElem_cons_zero, List.setIfInBounds_toArray, List.set_cons_zero, List.set_cons_succ]
    refine wpAnyG_ready (rs := [7]) (by kernel_rfl) (by simp) (AllReadyG.cons rfl (fun K1 hK1 => ?_) AllReadyG.nil)
    go_simp
    refine hK1.out _ _ (fun _ => r0 _ ((Fr.setCell w2 _ 0 _ (by simp)).comp (Fr.setCell _ _ 1 _ (by simp)))) ?_
    (try simp only [Act.put, List.getElem_toArray, List.getElem_cons_succ, List.getElem_cons_zero, List.setIfInBounds_toArray, List.set_cons_zero, List.set_cons_succ])
    refine wpAnyG_ready (rs := [8]) (by kernel_rfl) (by simp) (AllReadyG.cons rfl (fun K2 hK2 => ?_) AllReadyG.nil)
    go_simp
    refine hK2.out _ _ (fun _ => r0 _ ((((((Fr.setCell w2 _ 0 _ (by simp)).comp (Fr.setCell _ _ 1 _ (by simp))).comp (Fr.setCell _ _ 0 _ (by simp))).comp (Fr.setCell _ _ 1 _ (by simp))).comp (Fr.setCell _ _ 2 _ (by simp))).comp (Fr.setCell _ _ 3 _ (by simp)))) ?_
    refine wpAnyG_done (by kernel_rfl) ?_ _
    clear r0
    go_wp2_with fail
    obtain ⟨⟨z0, z1, z2, z3, z4, z5⟩, hP⟩ := step_end (w := w) (n := n) HY.out.1 rfl HY.out.2.1 rfl (by omega) HY.out.2.2.1 (by omega) (by omega) HY.out.2.2.2 (by omega) 0 false [] A4 m4 c4 _ rfl
    refine bodyPost_ret (v := .tuple #[.agg #[.slice Ak n ck, .slice Av n cv], .agg #[.int .i64 (0), .bool (false), str ([]), .slice A4 m4 c4]]) (by simp [results, Try.results23, go_sem, z0, z1, z2, z3, z4, z5]) rfl hP
  case k6 =>
    subst dd
    have HC := Lib.hid (slong_calls _ ks key W HH.out.1.k (by have := HH.out.1.kl; omega) (fun x hx => HH.out.1.fit x hx) hk)
    go_wp2_with fail
    refine HC.out.mono ?_
    rintro e w2 ⟨x, bv, rfl, hbv, b2⟩
    have y0 := HX.out.1.below b2 (by omega)
    have y2 := HX.out.2.2.1.below b2 (by omega)
    have y3 := HX.out.2.2.2.below b2 (by omega)
    have e0 : w2.cell? ⟨w.heap.size, 0, none⟩ = some (.slice Ak n ck) := y0.cell 0
    have e1 : w2.cell? ⟨w.heap.size, 1, none⟩ = some (.slice Av n cv) := y0.cell 1
    have f0 : w2.cell? ⟨w.heap.size + 2, 0, none⟩ = some (.slice none 0 0) := y2.cell 0
    have f1 : w2.cell? ⟨w.heap.size + 2, 1, none⟩ = some (.slice none 0 0) := y2.cell 1
    have g0 : w2.cell? ⟨w.heap.size + 3, 0, none⟩ = some (.int .i64 0) := y3.cell 0
    have g1 : w2.cell? ⟨w.heap.size + 3, 1, none⟩ = some (.bool false) := y3.cell 1
    have g2 : w2.cell? ⟨w.heap.size + 3, 2, none⟩ = some (str []) := y3.cell 2
    have g3 : w2.cell? ⟨w.heap.size + 3, 3, none⟩ = some (.slice none 0 0) := y3.cell 3
    have gf := y2.frozen
    have hf := y3.frozen
    have HY := Lib.hid (And.intro y2 (And.intro y3 (And.intro (HH.out.2.trans (b2.mono HH.out.2.size)) (HH.out.1.below b2))))
    clear y0 y2 y3 b2
    clear HC hbv
    go_wp2_with fail
    obtain ⟨⟨z0, z1, z2, z3, z4, z5⟩, hP⟩ := step_end (w := w) (n := n) HY.out.1 rfl HY.out.2.1 rfl (by omega) HY.out.2.2.1 (by omega) (by omega) HY.out.2.2.2 (by omega) 0 false x none 0 0 _ rfl
    refine bodyPost_ret (v := .tuple #[.agg #[.slice Ak n ck, .slice Av n cv], .agg #[.int .i64 (0), .bool (false), str (x), .slice none 0 0]]) (by simp [results, Try.results23, go_sem, z0, z1, z2, z3, z4, z5]) rfl hP
  case k7 =>
    subst dd
    go_upto_region 20 with (fail)
    refine wp_region_G (fun w' : World => w'.cell? ⟨w.heap.size, 0, none⟩ = some (.slice Ak n ck) ∧ w'.cell? ⟨w.heap.size, 1, none⟩ = some (.slice Av n cv) ∧ w'.cell? ⟨w.heap.size + 1, 1, none⟩ = some (str key)) (fun _ => false) (by kernel_rfl) ?_
    have hS0 : (fun w' : World => w'.cell? ⟨w.heap.size, 0, none⟩ = some (.slice Ak n ck) ∧ w'.cell? ⟨w.heap.size, 1, none⟩ = some (.slice Av n cv) ∧ w'.cell? ⟨w.heap.size + 1, 1, none⟩ = some (str key)) W.drew := ⟨c0, c1, d1⟩
    refine wpAnyG_take (i := 0) (v := ?_) rfl rfl (by kernel_rfl) (by kernel_rfl) (by kernel_rfl) (by kernel_rfl) (fun _ _ _ h => h) (by rfl) ?_ hS0 ?_
    rotate_left 1
    · intro w' hSw; (try dsimp only at hSw); go_simp; (try with_reducible rfl)
    simp only [Act.put, List.getElem_toArray, List.getElem_cons_succ, List.getElem_cons_zero, List.setIfInBounds_toArray, List.set_cons_zero, List.set_cons_succ]
    refine wpAnyG_take (i := 1) (v := ?_) rfl rfl (by kernel_rfl) (by kernel_rfl) (by kernel_rfl) (by kernel_rfl) (fun _ _ _ h => h) (by rfl) ?_ hS0 ?_
    rotate_left 1
    · intro w' hSw; (try dsimp only at hSw); go_simp; (try with_reducible rfl)
    simp only [Act.put, List.getElem_toArray, List.getElem_cons_succ, List.getElem_cons_zero, List.setIfInBounds_toArray, List.set_cons_zero, List.set_cons_succ]
    refine wpAnyG_take (i := 2) (v := ?_) rfl rfl (by kernel_rfl) (by kernel_rfl) (by kernel_rfl) (by kernel_rfl) (fun _ _ _ h => h) (by rfl) ?_ hS0 ?_
    rotate_left 1
    · intro w' hSw; (try dsimp only at hSw); go_simp; (try with_reducible rfl)
    simp only [Act.put, List.getElem_toArray, List.getElem_cons_succ, List.getElem_cons_zero, List.setIfInBounds_toArray, List.set_cons_zero, List.set_cons_succ]
    refine wpAnyG_take (i := 3) (v := ?_) rfl rfl (by kernel_rfl) (by kernel_rfl) (by kernel_rfl) (by kernel_rfl) (fun _ _ _ h => h) (by rfl) ?_ hS0 ?_
    rotate_left 1
    · intro w' hSw; (try dsimp only at hSw); go_simp; (try with_reducible rfl)
    simp only [Act.put, List.getElem_toArray, List.getElem_cons_succ, List.getElem_cons_zero, List.setIfInBounds_toArray, List.set_cons_zero, List.set_cons_succ]
    refine wpAnyG_take (i := 4) (v := ?_) rfl rfl (by kernel_rfl) (by kernel_rfl) (by kernel_rfl) (by kernel_rfl) (fun _ _ _ h => h) (by rfl) ?_ hS0 ?_
    rotate_left 1
    · intro w' hSw; (try dsimp only at hSw); go_simp; (try with_reducible rfl)
    simp only [Act.put, List.getElem_toArray, List.getElem_cons_succ, List.getElem_cons_zero, List.setIfInBounds_toArray, List.set_cons_zero, List.set_cons_succ]
    have b2 : Below W.heap.size W W.drew := Below.drewN W 1
    generalize W.drew = w2 at *
    have e2 : w2.cell? ⟨w.heap.size + 1, 1, none⟩ = some (str key) := hS0.2.2
    have y0 := HX.out.1.below b2 (by omega)
    have y2 := HX.out.2.2.1.below b2 (by omega)
    have y3 := HX.out.2.2.2.below b2 (by omega)
    have e0 : w2.cell? ⟨w.heap.size, 0, none⟩ = some (.slice Ak n ck) := y0.cell 0
    have e1 : w2.cell? ⟨w.heap.size, 1, none⟩ = some (.slice Av n cv) := y0.cell 1
    have f0 : w2.cell? ⟨w.heap.size + 2, 0, none⟩ = some (.slice none 0 0) := y2.cell 0
    have f1 : w2.cell? ⟨w.heap.size + 2, 1, none⟩ = some (.slice none 0 0) := y2.cell 1
    have g0 : w2.cell? ⟨w.heap.size + 3, 0, none⟩ = some (.int .i64 0) := y3.cell 0
    have g1 : w2.cell? ⟨w.heap.size + 3, 1, none⟩ = some (.bool false) := y3.cell 1
    have g2 : w2.cell? ⟨w.heap.size + 3, 2, none⟩ = some (str []) := y3.cell 2
    have g3 : w2.cell? ⟨w.heap.size + 3, 3, none⟩ = some (.slice none 0 0) := y3.cell 3
    have gf := y2.frozen
    have hf := y3.frozen
    have HY := Lib.hid (And.intro y2 (And.intro y3 (And.intro (HH.out.2.trans (b2.mono HH.out.2.size)) (HH.out.1.below b2))))
    clear y0 y2 y3 b2
    have r0 : ∀ u : World, Fr [w.heap.size + 2, w.heap.size + 3] w2 u → (fun w' : World => w'.cell? ⟨w.heap.size, 0, none⟩ = some (.slice Ak n ck) ∧ w'.cell? ⟨w.heap.size, 1, none⟩ = some (.slice Av n cv) ∧ w'.cell? ⟨w.heap.size + 1, 1, none⟩ = some (str key)) u := fun u hu => ⟨hu.cell e0 (by simp), hu.cell e1 (by simp), hu.cell e2 (by simp)⟩
    refine wpAnyG_ready (rs := [5]) (by kernel_rfl) (by simp) (AllReadyG.cons rfl (fun K1 hK1 => ?_) AllReadyG.nil)
    go_simp
    refine hK1.out _ _ (fun _ => r0 _ ((Fr.setCell w2 _ 0 _ (by simp)).comp (Fr.setCell _ _ 1 _ (by simp)))) ?_
    (try simp only [Act.put, List.getElem_toArray, List.getElem_cons_succ, List.getElem_cons_zero, List.setIfInBounds_toArray, List.set_cons_zero, List.set_cons_succ])
    refine wpAnyG_ready (rs := [6]) (by kernel_rfl) (by simp) (AllReadyG.cons rfl (fun K2 hK2 => ?_) AllReadyG.nil)
    go_simp
    refine hK2.out _ _ (fun _ => r0 _ ((((((Fr.setCell w2 _ 0 _ (by simp)).comp (Fr.setCell _ _ 1 _ (by simp))).comp (Fr.setCell _ _ 0 _ (by simp))).comp (Fr.setCell _ _ 1 _ (by simp))).comp (Fr.setCell _ _ 2 _ (by simp))).comp (Fr.setCell _ _ 3 _ (by simp)))) ?_
    refine wpAnyG_done (by kernel_rfl) ?_ _
    clear r0
    go_wp2_with fail
    obtain ⟨⟨z0, z1, z2, z3, z4, z5⟩, hP⟩ := step_end (w := w) (n := n) HY.out.1 rfl HY.out.2.1 rfl (by omega) HY.out.2.2.1 (by omega) (by omega) HY.out.2.2.2 (by omega) n false [] none 0 0 _ rfl
    refine bodyPost_ret (v := .tuple #[.agg #[.slice Ak n ck, .slice Av n cv], .agg #[.int .i64 (n), .bool (false), str ([]), .slice none 0 0]]) (by simp [results, Try.results23, go_sem, z0, z1, z2, z3, z4, z5]) rfl hP
  case k8 =>
    obtain ⟨n0, n1, n2, n3, n4, n5, n6, n7⟩ := dd
    obtain ⟨w2, hw2⟩ : ∃ w2, w2 = W := ⟨_, rfl⟩
    have b2 : Below W.heap.size W w2 := by rw [hw2]; exact Below.refl _ _
    rw [← hw2] at d0 ⊢
    have y0 := HX.out.1.below b2 (by omega)
    have y2 := HX.out.2.2.1.below b2 (by omega)
    have y3 := HX.out.2.2.2.below b2 (by omega)
    have e0 : w2.cell? ⟨w.heap.size, 0, none⟩ = some (.slice Ak n ck) := y0.cell 0
    have e1 : w2.cell? ⟨w.heap.size, 1, none⟩ = some (.slice Av n cv) := y0.cell 1
    have f0 : w2.cell? ⟨w.heap.size + 2, 0, none⟩ = some (.slice none 0 0) := y2.cell 0
    have f1 : w2.cell? ⟨w.heap.size + 2, 1, none⟩ = some (.slice none 0 0) := y2.cell 1
    have g0 : w2.cell? ⟨w.heap.size + 3, 0, none⟩ = some (.int .i64 0) := y3.cell 0
    have g1 : w2.cell? ⟨w.heap.size + 3, 1, none⟩ = some (.bool false) := y3.cell 1
    have g2 : w2.cell? ⟨w.heap.size + 3, 2, none⟩ = some (str []) := y3.cell 2
    have g3 : w2.cell? ⟨w.heap.size + 3, 3, none⟩ = some (.slice none 0 0) := y3.cell 3
    have gf := y2.frozen
    have hf := y3.frozen
    have HY := Lib.hid (And.intro y2 (And.intro y3 (And.intro (HH.out.2.trans (b2.mono HH.out.2.size)) (HH.out.1.below b2))))
    clear y0 y2 y3 b2
    clear hw2
    go_wp2_with fail
    obtain ⟨⟨z0, z1, z2, z3, z4, z5⟩, hP⟩ := step_end (w := w) (n := n) HY.out.1 rfl HY.out.2.1 rfl (by omega) HY.out.2.2.1 (by omega) (by omega) HY.out.2.2.2 (by omega) 0 false [] none 0 0 _ rfl
    refine bodyPost_ret (v := .tuple #[.agg #[.slice Ak n ck, .slice Av n cv], .agg #[.int .i64 (0), .bool (false), str ([]), .slice none 0 0]]) (by simp [results, Try.results23, go_sem, z0, z1, z2, z3, z4, z5]) rfl hP
end Go.Proofs.Ytlpcddmcddenfaa.Kp
