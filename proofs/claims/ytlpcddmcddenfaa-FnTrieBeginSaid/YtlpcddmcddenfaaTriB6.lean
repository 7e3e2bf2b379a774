/- spec.Removed. -/
import Derived.Test.YtlpcddmcddenfaaTriB5
import Derived.Test.YtlpcddmcddenfaaTriPw
namespace Go.Proofs.Ytlpcddmcddenfaa.Kp
open Go.RowKit Tri

/-- what the regions read. -/
def RS (g b o : Nat) (A : Option Addr) (n c : Nat) (A' : Option Addr) (c' : Nat) (act : Int) (key : Txt) (val : Int) (w' : World) : Prop :=
  w'.cell? ⟨g, 0, none⟩ = some (.slice A n c) ∧ w'.cell? ⟨g, 1, none⟩ = some (.slice A' n c') ∧ w'.cell? ⟨b, o, none⟩ = some (.int .i64 act) ∧ w'.cell? ⟨b, o + 1, none⟩ = some (str key) ∧ w'.cell? ⟨b, o + 2, none⟩ = some (.int .i64 val)
theorem RS.keep {g b o : Nat} {A : Option Addr} {n c : Nat} {A' : Option Addr} {c' : Nat} {act : Int} {key : Txt} {val : Int} {w w' : World} {B : Nat} (h : RS g b o A n c A' c' act key val w) (hb : Below B w w') (h1 : g < B) (h2 : b < B) : RS g b o A n c A' c' act key val w' :=
  ⟨(hb.cell (p := ⟨g, 0, none⟩) h1).trans h.1, (hb.cell (p := ⟨g, 1, none⟩) h1).trans h.2.1, (hb.cell (p := ⟨b, o, none⟩) h2).trans h.2.2.1, (hb.cell (p := ⟨b, o + 1, none⟩) h2).trans h.2.2.2.1, (hb.cell (p := ⟨b, o + 2, none⟩) h2).trans h.2.2.2.2⟩
theorem RS.fr {g b o : Nat} {A : Option Addr} {n c : Nat} {A' : Option Addr} {c' : Nat} {act : Int} {key : Txt} {val : Int} {w w' : World} {S : List Nat} (h : RS g b o A n c A' c' act key val w) (hb : Fr S w w') (h1 : g ∉ S) (h2 : b ∉ S) : RS g b o A n c A' c' act key val w' :=
  ⟨hb.cell h.1 h1, hb.cell h.2.1 h1, hb.cell h.2.2.1 h2, hb.cell h.2.2.2.1 h2, hb.cell h.2.2.2.2 h2⟩
theorem rem_end {w u : World} {b c n : Nat} {kv vv : Value} {ks : List Txt} {vs : List Int} (hb : Blk u b #[.slice none 0 0, .slice none 0 0] 49) (hc : Blk u c #[.int .i64 0, .bool false, str [], .slice none 0 0] 31) (hne : b ≠ c) (hB : Below w.heap.size w u) (hw : w.heap.size ≤ b) (hw' : w.heap.size ≤ c) (h : WV u kv vv n ks vs) (a1 a2 a3 a4 : Value) :
    ∀ W', W' = ((((((u.setCell ⟨b, 0, none⟩ kv).setCell ⟨b, 1, none⟩ vv).setCell ⟨c, 0, none⟩ a1).setCell ⟨c, 1, none⟩ a2).setCell ⟨c, 2, none⟩ a3).setCell ⟨c, 3, none⟩ a4) →
    Blk W' b #[kv, vv] 49 ∧ WV W' kv vv n ks vs ∧ Below w.heap.size w W' := by
  intro W' hW'
  have hb2 := (((((hb.set 0 kv).set 1 vv).far (c := c) (i := 0) (v := a1) hne).far (c := c) (i := 1) (v := a2) hne).far (c := c) (i := 2) (v := a3) hne).far (c := c) (i := 3) (v := a4) hne
  have hf : Fr [b, c] u W' := by
    rw [hW']
    exact (((((Fr.setCell u b 0 _ (by simp)).comp (Fr.setCell _ b 1 _ (by simp))).comp (Fr.setCell _ c 0 _ (by simp))).comp (Fr.setCell _ c 1 _ (by simp))).comp (Fr.setCell _ c 2 _ (by simp))).comp (Fr.setCell _ c 3 _ (by simp))
  rw [← hW'] at hb2
  refine ⟨by simpa using hb2, h.frS hf (fun y hy => ?_), hB.trans (hf.below (fun y hy => ?_) hB.size)⟩
  · simp only [List.mem_cons, List.not_mem_nil, or_false] at hy
    rcases hy with rfl | rfl
    · exact ⟨_, _, hb, by decide, by decide⟩
    · exact ⟨_, _, hc, by decide, by decide⟩
  · simp only [List.mem_cons, List.not_mem_nil, or_false] at hy
    rcases hy with rfl | rfl <;> assumption
/-- at a round's head. -/
def RI (w wr : World) (k : Nat) : Prop := ∃ A c A' c' n ks vs, WV wr (.slice A n c) (.slice A' n c') n ks vs ∧ n ≤ k ∧ Blk wr w.heap.size #[.slice A n c, .slice A' n c'] 49 ∧ Below w.heap.size w wr
theorem RI.next {w X : World} {k n c c' : Nat} {A A' : Option Addr} {ks : List Txt} {vs : List Int} {a b : Value} (hz : Blk X w.heap.size #[a, b] 49) (hv : WV X (.slice A n c) (.slice A' n c') n ks vs) (hn : n ≤ k) (hB : Below w.heap.size w X) :
    RI w ((X.setCell ⟨w.heap.size, 0, none⟩ (.slice A n c)).setCell ⟨w.heap.size, 1, none⟩ (.slice A' n c')) k := by
  have hf : Fr [w.heap.size] X ((X.setCell ⟨w.heap.size, 0, none⟩ (.slice A n c)).setCell ⟨w.heap.size, 1, none⟩ (.slice A' n c')) := (Fr.setCell X _ 0 _ (by simp)).comp (Fr.setCell _ _ 1 _ (by simp))
  refine ⟨A, c, A', c', n, ks, vs, hv.fr hf (fun x hx => ?_), hn, by simpa using (hz.set 0 (.slice A n c)).set 1 (.slice A' n c'), hB.trans (hf.below (fun x hx => ?_) hB.size)⟩
  · rw [List.mem_singleton] at hx; subst hx; exact ⟨_, hz⟩
  · rw [List.mem_singleton] at hx; omega
/-- a truth value is told. -/
def TellsB (w : World) (e : Ending) (w' : World) : Prop := ∃ v, e = .returned v ∧ (v = .bool false ∨ v = .bool true) ∧ Below w.heap.size w w'
set_option maxRecDepth 100000 in
set_option maxHeartbeats 12800000 in
theorem removed_calls (lv : Value) (l : List WordD) (w : World) (hl : SlC 3 wordCell w w.heap.size lv l) (hln : l.length ≤ 2147483647) (hf : ∀ a ∈ l, a.key.length ≤ 2147483647) :
    Calls Try.prog 11 #[lv] w (TellsB w) := by
  obtain ⟨A3, c3, rfl⟩ := hl.form
  have HL := Lib.hid hl
  have HF := Lib.hid hf
  have HI := Lib.hid (show RI w (w.alloc (.cells #[.slice none 0 0, .slice none 0 0] 49)) 0 from ⟨none, 0, none, 0, 0, [], [], ⟨NX.nil _, NX.nil _, rfl, rfl, fun _ h => by cases h⟩, Nat.le_refl _, Blk.new _ _ _, (Below.refl _ w).alloc (Nat.le_refl _) _⟩)
  clear hl hf
  go_enter Try.func11, Try.ntmps11
  go_wp2_with fail
  go_loopw [4] (fun i wr => ∃ k : Nat, k ≤ l.length ∧ i = .int .i64 (k : Nat) ∧ Hid (RI w wr k)) (fun i _ => l.length - (intOf i).toNat)
  case atStart => exact ⟨0, Nat.zero_le _, rfl, HI⟩
  case round =>
    obtain ⟨k, hk, rfl, HK⟩ := hrel
    obtain ⟨A, c, A', c', n, ks, vs, hv, hnk, hx0, hB⟩ := HK.out
    by_cases hlt : k < l.length
    · obtain ⟨b, off, a, rfl, g1, g3, g4, g5, z⟩ := HL.out.at_ hlt
      have hpa := HF.out a (List.mem_of_getElem? g5)
      obtain ⟨act, key, val⟩ := a
      have c0 : wr.cell? ⟨w.heap.size, 0, none⟩ = some (.slice A n c) := hx0.cell 0
      have c1 : wr.cell? ⟨w.heap.size, 1, none⟩ = some (.slice A' n c') := hx0.cell 1
      have q0 := (hB.cell (p := ⟨b, off + k * 3, none⟩) g3).trans (z 0 _ rfl)
      have q1 := (hB.cell (p := ⟨b, off + k * 3 + 1, none⟩) g3).trans (z 1 _ rfl)
      have q2 := (hB.cell (p := ⟨b, off + k * 3 + 2, none⟩) g3).trans (z 2 _ rfl)
      have hg0 : w.heap.size < wr.heap.size := hx0.lt
      have hb0 : b < wr.heap.size := Nat.lt_of_lt_of_le g4 hB.size
      have HR0 := Lib.hid (And.intro hx0 hB)
      have HG := Lib.hid (fun (u : World) (hu : Below wr.heap.size wr u) => wget_calls _ _ n ks vs key u (hv.below hu) (by omega))
      have HC := Lib.hid (fun (u : World) (hu : Below wr.heap.size wr u) => wstep_calls _ _ n ks vs act key val u (hv.below hu) (by omega) hpa)
      simp only at q0 q1 q2 hpa
      clear g5 z hv hx0 hB HK g4
      go_upto_region 5 with (fail)
      have b1 : Below wr.heap.size wr wr.drew := Below.drewN wr 1
      refine wp_region_G (RS w.heap.size b (off + k * 3) A n c A' c' act key val) (fun _ => false) (by kernel_rfl) ?_
      have hS0 : (RS w.heap.size b (off + k * 3) A n c A' c' act key val) wr.drew := ⟨c0, c1, q0, q1, q2⟩
      refine wpAnyG_take (i := 0) (v := ?_) rfl rfl (by kernel_rfl) (by kernel_rfl) (by kernel_rfl) (by kernel_rfl) (fun _ _ _ h => h) (by rfl) ?_ hS0 ?_
      rotate_left 1
      · intro w' hSw; (try dsimp only [RS] at hSw); go_simp; (try with_reducible rfl)
      simp only [Act.put, List.getElem_toArray, List.getElem_cons_succ, List.getElem_cons_zero, List.setIfInBounds_toArray, List.set_cons_zero, List.set_cons_succ]
      refine wpAnyG_take (i := 1) (v := ?_) rfl rfl (by kernel_rfl) (by kernel_rfl) (by kernel_rfl) (by kernel_rfl) (fun _ _ _ h => h) (by rfl) ?_ hS0 ?_
      rotate_left 1
      · intro w' hSw; (try dsimp only [RS] at hSw); go_simp; (try with_reducible rfl)
      simp only [Act.put, List.getElem_toArray, List.getElem_cons_succ, List.getElem_cons_zero, List.setIfInBounds_toArray, List.set_cons_zero, List.set_cons_succ]
      refine wpAnyG_take (i := 2) (v := ?_) rfl rfl (by kernel_rfl) (by kernel_rfl) (by kernel_rfl) (by kernel_rfl) (fun _ _ _ h => h) (by rfl) ?_ hS0 ?_
      rotate_left 1
      · intro w' hSw; (try dsimp only [RS] at hSw); go_simp; (try with_reducible rfl)
      simp only [Act.put, List.getElem_toArray, List.getElem_cons_succ, List.getElem_cons_zero, List.setIfInBounds_toArray, List.set_cons_zero, List.set_cons_succ]
      refine wpAnyG_take (i := 3) (v := ?_) rfl rfl (by kernel_rfl) (by kernel_rfl) (by kernel_rfl) (by kernel_rfl) (fun _ _ _ h => h) (by rfl) ?_ hS0 ?_
      rotate_left 1
      · intro w' hSw; (try dsimp only [RS] at hSw); go_simp; (try with_reducible rfl)
      simp only [Act.put, List.getElem_toArray, List.getElem_cons_succ, List.getElem_cons_zero, List.setIfInBounds_toArray, List.set_cons_zero, List.set_cons_succ]
      refine wpAnyG_take (i := 4) (v := ?_) rfl rfl (by kernel_rfl) (by kernel_rfl) (by kernel_rfl) (by kernel_rfl) (fun _ _ _ h => h) (by rfl) ?_ hS0 ?_
      rotate_left 1
      · intro w' hSw; (try dsimp only [RS] at hSw); go_simp; (try with_reducible rfl)
      simp only [Act.put, List.getElem_toArray, List.getElem_cons_succ, List.getElem_cons_zero, List.setIfInBounds_toArray, List.set_cons_zero, List.set_cons_succ]
      refine wpAnyG_take (i := 5) (v := ?_) rfl rfl (by kernel_rfl) (by kernel_rfl) (by kernel_rfl) (by kernel_rfl) (fun _ _ _ h => h) (by rfl) ?_ hS0 ?_
      rotate_left 1
      · intro w' hSw; (try dsimp only [RS] at hSw); go_simp; (try with_reducible rfl)
      simp only [Act.put, List.getElem_toArray, List.getElem_cons_succ, List.getElem_cons_zero, List.setIfInBounds_toArray, List.set_cons_zero, List.set_cons_succ]
      refine wpAnyG_ready (rs := [6]) (by kernel_rfl) (by simp) (AllReadyG.cons rfl (fun K6 hK6 => ?_) AllReadyG.nil)
      refine step_callw (by rfl) 22 #[.agg #[.slice A n c, .slice A' n c'], str key] (by go_simp) ((HG.out wr.drew b1).mono ?_)
      rintro e w2 ⟨x, bv, rfl, hbv, b2⟩
      refine ⟨_, rfl, ?_⟩
      have b3 := b1.trans b2
      replace hS0 := RS.keep hS0 (b2.mono b1.size) hg0 hb0
      refine hK6.out _ _ (fun _ => hS0) ?_
      simp only [Act.put, List.getElem_toArray, List.getElem_cons_succ, List.getElem_cons_zero, List.setIfInBounds_toArray, List.set_cons_zero, List.set_cons_succ]
      refine wpAnyG_take (i := 7) (v := ?_) rfl rfl (by kernel_rfl) (by kernel_rfl) (by kernel_rfl) (by kernel_rfl) (fun _ _ _ h => h) (by rfl) ?_ hS0 ?_
      rotate_left 1
      · intro w' hSw; (try dsimp only [RS] at hSw); go_simp; (try with_reducible rfl)
      simp only [Act.put, List.getElem_toArray, List.getElem_cons_succ, List.getElem_cons_zero, List.setIfInBounds_toArray, List.set_cons_zero, List.set_cons_succ]
      refine wpAnyG_take (i := 8) (v := ?_) rfl rfl (by kernel_rfl) (by kernel_rfl) (by kernel_rfl) (by kernel_rfl) (fun _ _ _ h => h) (by rfl) ?_ hS0 ?_
      rotate_left 1
      · intro w' hSw; (try dsimp only [RS] at hSw); go_simp; (try with_reducible rfl)
      simp only [Act.put, List.getElem_toArray, List.getElem_cons_succ, List.getElem_cons_zero, List.setIfInBounds_toArray, List.set_cons_zero, List.set_cons_succ]
      refine wpAnyG_take (i := 9) (v := ?_) rfl rfl (by kernel_rfl) (by kernel_rfl) (by kernel_rfl) (by kernel_rfl) (fun _ _ _ h => h) (by rfl) ?_ hS0 ?_
      rotate_left 1
      · intro w' hSw; (try dsimp only [RS] at hSw); go_simp; (try with_reducible rfl)
      simp only [Act.put, List.getElem_toArray, List.getElem_cons_succ, List.getElem_cons_zero, List.setIfInBounds_toArray, List.set_cons_zero, List.set_cons_succ]
      refine wpAnyG_take (i := 10) (v := ?_) rfl rfl (by kernel_rfl) (by kernel_rfl) (by kernel_rfl) (by kernel_rfl) (fun _ _ _ h => h) (by rfl) ?_ hS0 ?_
      rotate_left 1
      · intro w' hSw; (try dsimp only [RS] at hSw); go_simp; (try with_reducible rfl)
      simp only [Act.put, List.getElem_toArray, List.getElem_cons_succ, List.getElem_cons_zero, List.setIfInBounds_toArray, List.set_cons_zero, List.set_cons_succ]
      refine wpAnyG_take (i := 11) (v := ?_) rfl rfl (by kernel_rfl) (by kernel_rfl) (by kernel_rfl) (by kernel_rfl) (fun _ _ _ h => h) (by rfl) ?_ hS0 ?_
      rotate_left 1
      · intro w' hSw; (try dsimp only [RS] at hSw); go_simp; (try with_reducible rfl)
      simp only [Act.put, List.getElem_toArray, List.getElem_cons_succ, List.getElem_cons_zero, List.setIfInBounds_toArray, List.set_cons_zero, List.set_cons_succ]
      refine wpAnyG_done (by kernel_rfl) ?_ _
      have HBw2 := Lib.hid b3
      clear b1 b2 b3 c0 c1 q0 q1 q2 HG
      obtain ⟨c0, c1, q0, q1, q2⟩ := id hS0
      have hc : ((act == 1) = true ∧ bv = .bool false) ∨ ((act == 1) = true ∧ bv = .bool true) ∨ (act == 1) = false := by
        cases act == 1 <;> rcases hbv with rfl | rfl <;> simp
      clear hbv
      rcases hc with ⟨e1, rfl⟩ | ⟨e1, rfl⟩ | e1
      · have HE := Lib.hid (HR0.out.2.trans (HBw2.out.mono HR0.out.2.size))
        clear hS0
        go_wp2_with fail
        go_ret
        exact ⟨_, rfl, .inl rfl, HE.out⟩
      all_goals
        go_upto_region 8 with (fail)
        have hS0 : (RS w.heap.size b (off + k * 3) A n c A' c' act key val) w2.drew := ⟨c0, c1, q0, q1, q2⟩
        have HBu0 : Hid (Below wr.heap.size wr w2.drew) := Lib.hid (HBw2.out.trans ((show Below w2.heap.size w2 w2.drew from Below.drewN w2 1).mono HBw2.out.size))
        refine wp_region_G (RS w.heap.size b (off + k * 3) A n c A' c' act key val) (fun _ => false) (by kernel_rfl) ?_
        clear c0 c1 q0 q1 q2 HBw2
        change wpAnyG _ _ _ _ _ _ _ _ _ w2.drew
        generalize w2.drew = u0 at hS0 HBu0 ⊢
        refine wpAnyG_take (i := 0) (v := ?_) rfl rfl (by kernel_rfl) (by kernel_rfl) (by kernel_rfl) (by kernel_rfl) (fun _ _ _ h => h) (by rfl) ?_ hS0 ?_
        rotate_left 1
        · intro w' hSw; (try dsimp only [RS] at hSw); go_simp; (try with_reducible rfl)
        simp only [Act.put, List.getElem_toArray, List.getElem_cons_succ, List.getElem_cons_zero, List.setIfInBounds_toArray, List.set_cons_zero, List.set_cons_succ]
        refine wpAnyG_take (i := 1) (v := ?_) rfl rfl (by kernel_rfl) (by kernel_rfl) (by kernel_rfl) (by kernel_rfl) (fun _ _ _ h => h) (by rfl) ?_ hS0 ?_
        rotate_left 1
        · intro w' hSw; (try dsimp only [RS] at hSw); go_simp; (try with_reducible rfl)
        simp only [Act.put, List.getElem_toArray, List.getElem_cons_succ, List.getElem_cons_zero, List.setIfInBounds_toArray, List.set_cons_zero, List.set_cons_succ]
        refine wpAnyG_take (i := 2) (v := ?_) rfl rfl (by kernel_rfl) (by kernel_rfl) (by kernel_rfl) (by kernel_rfl) (fun _ _ _ h => h) (by rfl) ?_ hS0 ?_
        rotate_left 1
        · intro w' hSw; (try dsimp only [RS] at hSw); go_simp; (try with_reducible rfl)
        simp only [Act.put, List.getElem_toArray, List.getElem_cons_succ, List.getElem_cons_zero, List.setIfInBounds_toArray, List.set_cons_zero, List.set_cons_succ]
        refine wpAnyG_take (i := 3) (v := ?_) rfl rfl (by kernel_rfl) (by kernel_rfl) (by kernel_rfl) (by kernel_rfl) (fun _ _ _ h => h) (by rfl) ?_ hS0 ?_
        rotate_left 1
        · intro w' hSw; (try dsimp only [RS] at hSw); go_simp; (try with_reducible rfl)
        simp only [Act.put, List.getElem_toArray, List.getElem_cons_succ, List.getElem_cons_zero, List.setIfInBounds_toArray, List.set_cons_zero, List.set_cons_succ]
        refine wpAnyG_take (i := 4) (v := ?_) rfl rfl (by kernel_rfl) (by kernel_rfl) (by kernel_rfl) (by kernel_rfl) (fun _ _ _ h => h) (by rfl) ?_ hS0 ?_
        rotate_left 1
        · intro w' hSw; (try dsimp only [RS] at hSw); go_simp; (try with_reducible rfl)
        simp only [Act.put, List.getElem_toArray, List.getElem_cons_succ, List.getElem_cons_zero, List.setIfInBounds_toArray, List.set_cons_zero, List.set_cons_succ]
        refine wpAnyG_ready (rs := [5, 9, 10]) (by kernel_rfl) (by simp) (AllReadyG.cons rfl (fun K5 hK5 => ?_) (AllReadyG.cons rfl (fun K9 hK9 => ?_) (AllReadyG.cons rfl (fun K10 hK10 => ?_) (AllReadyG.nil))))
        · refine step_callw (by rfl) 23 #[.agg #[.slice A n c, .slice A' n c'], .agg #[.int .i64 act, str key, .int .i64 val]] (by go_simp) ((HC.out u0 HBu0.out).mono ?_)
          rintro e u1 ⟨kv', vv', n', ks', vs', a1, a2, a3, A9, m9, c9, rfl, hv, hn', b5⟩
          refine ⟨_, rfl, ?_⟩
          obtain ⟨A7, c7, rfl⟩ := hv.k.form
          obtain ⟨A8, c8, rfl⟩ := hv.v.form
          replace hv : WV u1 (.slice A7 n' c7) (.slice A8 n' c8) n' ks' vs' := by have h' := hv; rw [hv.kl, hv.vl] at h'; exact h'
          have q1 := hv.kl
          have q2 := hv.vl
          rw [q1, q2]
          clear q1 q2
          have HVu1 := Lib.hid (And.intro hv hn')
          have HBu1 := Lib.hid (HBu0.out.trans (b5.mono HBu0.out.size))
          replace hS0 := RS.keep hS0 (b5.mono HBu0.out.size) hg0 hb0
          refine hK5.out _ _ (fun _ => hS0) ?_
          clear hv hn' b5
          simp only [Act.put, List.getElem_toArray, List.getElem_cons_succ, List.getElem_cons_zero, List.setIfInBounds_toArray, List.set_cons_zero, List.set_cons_succ]
          refine wpAnyG_take (i := 6) (v := ?_) rfl rfl (by kernel_rfl) (by kernel_rfl) (by kernel_rfl) (by kernel_rfl) (fun _ _ _ h => h) (by rfl) ?_ hS0 ?_
          rotate_left 1
          · intro w' hSw; (try dsimp only [RS] at hSw); go_simp; (try with_reducible rfl)
          simp only [Act.put, List.getElem_toArray, List.getElem_cons_succ, List.getElem_cons_zero, List.setIfInBounds_toArray, List.set_cons_zero, List.set_cons_succ]
          refine wpAnyG_take (i := 7) (v := ?_) rfl rfl (by kernel_rfl) (by kernel_rfl) (by kernel_rfl) (by kernel_rfl) (fun _ _ _ h => h) (by rfl) ?_ hS0 ?_
          rotate_left 1
          · intro w' hSw; (try dsimp only [RS] at hSw); go_simp; (try with_reducible rfl)
          simp only [Act.put, List.getElem_toArray, List.getElem_cons_succ, List.getElem_cons_zero, List.setIfInBounds_toArray, List.set_cons_zero, List.set_cons_succ]
          refine wpAnyG_take (i := 8) (v := ?_) rfl rfl (by kernel_rfl) (by kernel_rfl) (by kernel_rfl) (by kernel_rfl) (fun _ _ _ h => h) (by rfl) ?_ hS0 ?_
          rotate_left 1
          · intro w' hSw; (try dsimp only [RS] at hSw); go_simp; (try with_reducible rfl)
          simp only [Act.put, List.getElem_toArray, List.getElem_cons_succ, List.getElem_cons_zero, List.setIfInBounds_toArray, List.set_cons_zero, List.set_cons_succ]
          refine wpAnyG_ready (rs := [9, 10]) (by kernel_rfl) (by simp) (AllReadyG.cons rfl (fun K9 hK9 => ?_) (AllReadyG.cons rfl (fun K10 hK10 => ?_) (AllReadyG.nil)))
          · go_simp
            have hbn := Blk.new u1 #[.slice none 0 0, .slice none 0 0] 49
            have b5 : Below u1.heap.size u1 (u1.alloc (.cells #[.slice none 0 0, .slice none 0 0] 49)) := (Below.refl _ u1).alloc (Nat.le_refl _) _
            replace hS0 := RS.keep hS0 (b5.mono HBu1.out.size) hg0 hb0
            refine hK9.out _ (u1.alloc (.cells #[.slice none 0 0, .slice none 0 0] 49)) (fun _ => hS0) ?_
            (try simp only [Act.put, List.getElem_toArray, List.getElem_cons_succ, List.getElem_cons_zero, List.setIfInBounds_toArray, List.set_cons_zero, List.set_cons_succ])
            generalize hV : u1.alloc (.cells #[.slice none 0 0, .slice none 0 0] 49) = u2 at hbn b5 hS0 ⊢
            clear hV
            have hg : wr.heap.size ≤ u1.heap.size := HBu1.out.size
            have HVu2 := Lib.hid (And.intro (HVu1.out.1.below b5) HVu1.out.2)
            have HBu2 := Lib.hid (HBu1.out.trans (b5.mono HBu1.out.size))
            have HP9u2 := Lib.hid hbn
            clear hbn b5
            generalize u1.heap.size = g9 at *
            have hg9 := hg
            clear hg
            refine wpAnyG_ready (rs := [10]) (by kernel_rfl) (by simp) (AllReadyG.cons rfl (fun K10 hK10 => ?_) (AllReadyG.nil))
            go_simp
            have hbn := Blk.new u2 #[.int .i64 0, .bool false, str [], .slice none 0 0] 31
            have b5 : Below u2.heap.size u2 (u2.alloc (.cells #[.int .i64 0, .bool false, str [], .slice none 0 0] 31)) := (Below.refl _ u2).alloc (Nat.le_refl _) _
            replace hS0 := RS.keep hS0 (b5.mono HBu2.out.size) hg0 hb0
            refine hK10.out _ (u2.alloc (.cells #[.int .i64 0, .bool false, str [], .slice none 0 0] 31)) (fun _ => hS0) ?_
            (try simp only [Act.put, List.getElem_toArray, List.getElem_cons_succ, List.getElem_cons_zero, List.setIfInBounds_toArray, List.set_cons_zero, List.set_cons_succ])
            generalize hV : u2.alloc (.cells #[.int .i64 0, .bool false, str [], .slice none 0 0] 31) = u3 at hbn b5 hS0 ⊢
            clear hV
            have hg : wr.heap.size ≤ u2.heap.size := HBu2.out.size
            have HVu3 := Lib.hid (And.intro (HVu2.out.1.below b5) HVu2.out.2)
            have HP9u3 := Lib.hid (HP9u2.out.below b5 HP9u2.out.lt)
            have hN : g9 < u2.heap.size := HP9u2.out.lt
            have HBu3 := Lib.hid (HBu2.out.trans (b5.mono HBu2.out.size))
            have HP10u3 := Lib.hid hbn
            clear hbn b5
            generalize u2.heap.size = g10 at *
            have hg10 := hg
            clear hg
            have p0 : u3.cell? ⟨g9, 0, none⟩ = some (.slice none 0 0) := HP9u3.out.cell 0
            have p1 : u3.cell? ⟨g9, 1, none⟩ = some (.slice none 0 0) := HP9u3.out.cell 1
            have s0 : u3.cell? ⟨g10, 0, none⟩ = some (.int .i64 0) := HP10u3.out.cell 0
            have s1 : u3.cell? ⟨g10, 1, none⟩ = some (.bool false) := HP10u3.out.cell 1
            have s2 : u3.cell? ⟨g10, 2, none⟩ = some (str []) := HP10u3.out.cell 2
            have s3 : u3.cell? ⟨g10, 3, none⟩ = some (.slice none 0 0) := HP10u3.out.cell 3
            have pf := HP9u3.out.frozen
            have sf := HP10u3.out.frozen
            have hne : g9 ≠ g10 := by omega
            have r0 : ∀ u : World, Fr [g9, g10] u3 u → (RS w.heap.size b (off + k * 3) A n c A' c' act key val) u := fun u hu => RS.fr hS0 hu (by simp; omega) (by simp; omega)
            refine wpAnyG_ready (rs := [11]) (by kernel_rfl) (by simp) (AllReadyG.cons rfl (fun K11 hK11 => ?_) AllReadyG.nil)
            go_simp
            refine hK11.out _ _ (fun _ => r0 _ ((Fr.setCell u3 _ 0 _ (by simp)).comp (Fr.setCell _ _ 1 _ (by simp)))) ?_
            (try simp only [Act.put, List.getElem_toArray, List.getElem_cons_succ, List.getElem_cons_zero, List.setIfInBounds_toArray, List.set_cons_zero, List.set_cons_succ])
            refine wpAnyG_ready (rs := [12]) (by kernel_rfl) (by simp) (AllReadyG.cons rfl (fun K12 hK12 => ?_) AllReadyG.nil)
            go_simp
            refine hK12.out _ _ (fun _ => r0 _ ((((((Fr.setCell u3 _ 0 _ (by simp)).comp (Fr.setCell _ _ 1 _ (by simp))).comp (Fr.setCell _ _ 0 _ (by simp))).comp (Fr.setCell _ _ 1 _ (by simp))).comp (Fr.setCell _ _ 2 _ (by simp))).comp (Fr.setCell _ _ 3 _ (by simp)))) ?_
            refine wpAnyG_done (by kernel_rfl) ?_ _
            clear r0 p0 p1 s0 s1 s2 s3 pf sf
            obtain ⟨X, hX⟩ : ∃ X, X = ((((((u3.setCell ⟨g9, 0, none⟩ (.slice A7 n' c7)).setCell ⟨g9, 1, none⟩ (.slice A8 n' c8)).setCell ⟨g10, 0, none⟩ (.int .i64 a1)).setCell ⟨g10, 1, none⟩ (.bool a2)).setCell ⟨g10, 2, none⟩ (str a3)).setCell ⟨g10, 3, none⟩ (.slice A9 m9 c9)) := ⟨_, rfl⟩
            obtain ⟨hy, hv, hb⟩ := rem_end HP9u3.out HP10u3.out hne HBu3.out hg9 hg10 HVu3.out.1 _ _ _ _ X hX
            change Exit.then _ _ _ _ (((((((u3.setCell ⟨g9, 0, none⟩ (.slice A7 n' c7)).setCell ⟨g9, 1, none⟩ (.slice A8 n' c8)).setCell ⟨g10, 0, none⟩ (.int .i64 a1)).setCell ⟨g10, 1, none⟩ (.bool a2)).setCell ⟨g10, 2, none⟩ (str a3)).setCell ⟨g10, 3, none⟩ (.slice A9 m9 c9)))
            rw [← hX]
            have hz := HR0.out.1.below hb hg0
            have h0 : X.cell? ⟨g9, 0, none⟩ = some (.slice A7 n' c7) := hy.cell 0
            have h1 : X.cell? ⟨g9, 1, none⟩ = some (.slice A8 n' c8) := hy.cell 1
            have h2 : X.cell? ⟨w.heap.size, 0, none⟩ = some (.slice A n c) := hz.cell 0
            have h3 : X.cell? ⟨w.heap.size, 1, none⟩ = some (.slice A' n c') := hz.cell 1
            have hf := hz.frozen
            have HE := Lib.hid (RI.next hz hv (show n' ≤ k + 1 by have := HVu3.out.2; omega) (HR0.out.2.trans (hb.mono HR0.out.2.size)))
            clear hX hy hv hb hz
            go_wp2_with fail
            exact ⟨⟨k + 1, by omega, by go_num, HE⟩, by simp [intOf]; omega⟩
          · go_simp
            have hbn := Blk.new u1 #[.int .i64 0, .bool false, str [], .slice none 0 0] 31
            have b5 : Below u1.heap.size u1 (u1.alloc (.cells #[.int .i64 0, .bool false, str [], .slice none 0 0] 31)) := (Below.refl _ u1).alloc (Nat.le_refl _) _
            replace hS0 := RS.keep hS0 (b5.mono HBu1.out.size) hg0 hb0
            refine hK10.out _ (u1.alloc (.cells #[.int .i64 0, .bool false, str [], .slice none 0 0] 31)) (fun _ => hS0) ?_
            (try simp only [Act.put, List.getElem_toArray, List.getElem_cons_succ, List.getElem_cons_zero, List.setIfInBounds_toArray, List.set_cons_zero, List.set_cons_succ])
            generalize hV : u1.alloc (.cells #[.int .i64 0, .bool false, str [], .slice none 0 0] 31) = u2 at hbn b5 hS0 ⊢
            clear hV
            have hg : wr.heap.size ≤ u1.heap.size := HBu1.out.size
            have HVu2 := Lib.hid (And.intro (HVu1.out.1.below b5) HVu1.out.2)
            have HBu2 := Lib.hid (HBu1.out.trans (b5.mono HBu1.out.size))
            have HP10u2 := Lib.hid hbn
            clear hbn b5
            generalize u1.heap.size = g10 at *
            have hg10 := hg
            clear hg
            refine wpAnyG_ready (rs := [9]) (by kernel_rfl) (by simp) (AllReadyG.cons rfl (fun K9 hK9 => ?_) (AllReadyG.nil))
            go_simp
            have hbn := Blk.new u2 #[.slice none 0 0, .slice none 0 0] 49
            have b5 : Below u2.heap.size u2 (u2.alloc (.cells #[.slice none 0 0, .slice none 0 0] 49)) := (Below.refl _ u2).alloc (Nat.le_refl _) _
            replace hS0 := RS.keep hS0 (b5.mono HBu2.out.size) hg0 hb0
            refine hK9.out _ (u2.alloc (.cells #[.slice none 0 0, .slice none 0 0] 49)) (fun _ => hS0) ?_
            (try simp only [Act.put, List.getElem_toArray, List.getElem_cons_succ, List.getElem_cons_zero, List.setIfInBounds_toArray, List.set_cons_zero, List.set_cons_succ])
            generalize hV : u2.alloc (.cells #[.slice none 0 0, .slice none 0 0] 49) = u3 at hbn b5 hS0 ⊢
            clear hV
            have hg : wr.heap.size ≤ u2.heap.size := HBu2.out.size
            have HVu3 := Lib.hid (And.intro (HVu2.out.1.below b5) HVu2.out.2)
            have HP10u3 := Lib.hid (HP10u2.out.below b5 HP10u2.out.lt)
            have hN : g10 < u2.heap.size := HP10u2.out.lt
            have HBu3 := Lib.hid (HBu2.out.trans (b5.mono HBu2.out.size))
            have HP9u3 := Lib.hid hbn
            clear hbn b5
            generalize u2.heap.size = g9 at *
            have hg9 := hg
            clear hg
            have p0 : u3.cell? ⟨g9, 0, none⟩ = some (.slice none 0 0) := HP9u3.out.cell 0
            have p1 : u3.cell? ⟨g9, 1, none⟩ = some (.slice none 0 0) := HP9u3.out.cell 1
            have s0 : u3.cell? ⟨g10, 0, none⟩ = some (.int .i64 0) := HP10u3.out.cell 0
            have s1 : u3.cell? ⟨g10, 1, none⟩ = some (.bool false) := HP10u3.out.cell 1
            have s2 : u3.cell? ⟨g10, 2, none⟩ = some (str []) := HP10u3.out.cell 2
            have s3 : u3.cell? ⟨g10, 3, none⟩ = some (.slice none 0 0) := HP10u3.out.cell 3
            have pf := HP9u3.out.frozen
            have sf := HP10u3.out.frozen
            have hne : g9 ≠ g10 := by omega
            have r0 : ∀ u : World, Fr [g9, g10] u3 u → (RS w.heap.size b (off + k * 3) A n c A' c' act key val) u := fun u hu => RS.fr hS0 hu (by simp; omega) (by simp; omega)
            refine wpAnyG_ready (rs := [11]) (by kernel_rfl) (by simp) (AllReadyG.cons rfl (fun K11 hK11 => ?_) AllReadyG.nil)
            go_simp
            refine hK11.out _ _ (fun _ => r0 _ ((Fr.setCell u3 _ 0 _ (by simp)).comp (Fr.setCell _ _ 1 _ (by simp)))) ?_
            (try simp only [Act.put, List.getElem_toArray, List.getElem_cons_succ, List.getElem_cons_zero, List.setIfInBounds_toArray, List.set_cons_zero, List.set_cons_succ])
            refine wpAnyG_ready (rs := [12]) (by kernel_rfl) (by simp) (AllReadyG.cons rfl (fun K12 hK12 => ?_) AllReadyG.nil)
            go_simp
            refine hK12.out _ _ (fun _ => r0 _ ((((((Fr.setCell u3 _ 0 _ (by simp)).comp (Fr.setCell _ _ 1 _ (by simp))).comp (Fr.setCell _ _ 0 _ (by simp))).comp (Fr.setCell _ _ 1 _ (by simp))).comp (Fr.setCell _ _ 2 _ (by simp))).comp (Fr.setCell _ _ 3 _ (by simp)))) ?_
            refine wpAnyG_done (by kernel_rfl) ?_ _
            clear r0 p0 p1 s0 s1 s2 s3 pf sf
            obtain ⟨X, hX⟩ : ∃ X, X = ((((((u3.setCell ⟨g9, 0, none⟩ (.slice A7 n' c7)).setCell ⟨g9, 1, none⟩ (.slice A8 n' c8)).setCell ⟨g10, 0, none⟩ (.int .i64 a1)).setCell ⟨g10, 1, none⟩ (.bool a2)).setCell ⟨g10, 2, none⟩ (str a3)).setCell ⟨g10, 3, none⟩ (.slice A9 m9 c9)) := ⟨_, rfl⟩
            obtain ⟨hy, hv, hb⟩ := rem_end HP9u3.out HP10u3.out hne HBu3.out hg9 hg10 HVu3.out.1 _ _ _ _ X hX
            change Exit.then _ _ _ _ (((((((u3.setCell ⟨g9, 0, none⟩ (.slice A7 n' c7)).setCell ⟨g9, 1, none⟩ (.slice A8 n' c8)).setCell ⟨g10, 0, none⟩ (.int .i64 a1)).setCell ⟨g10, 1, none⟩ (.bool a2)).setCell ⟨g10, 2, none⟩ (str a3)).setCell ⟨g10, 3, none⟩ (.slice A9 m9 c9)))
            rw [← hX]
            have hz := HR0.out.1.below hb hg0
            have h0 : X.cell? ⟨g9, 0, none⟩ = some (.slice A7 n' c7) := hy.cell 0
            have h1 : X.cell? ⟨g9, 1, none⟩ = some (.slice A8 n' c8) := hy.cell 1
            have h2 : X.cell? ⟨w.heap.size, 0, none⟩ = some (.slice A n c) := hz.cell 0
            have h3 : X.cell? ⟨w.heap.size, 1, none⟩ = some (.slice A' n c') := hz.cell 1
            have hf := hz.frozen
            have HE := Lib.hid (RI.next hz hv (show n' ≤ k + 1 by have := HVu3.out.2; omega) (HR0.out.2.trans (hb.mono HR0.out.2.size)))
            clear hX hy hv hb hz
            go_wp2_with fail
            exact ⟨⟨k + 1, by omega, by go_num, HE⟩, by simp [intOf]; omega⟩
        · go_simp
          have hbn := Blk.new u0 #[.slice none 0 0, .slice none 0 0] 49
          have b5 : Below u0.heap.size u0 (u0.alloc (.cells #[.slice none 0 0, .slice none 0 0] 49)) := (Below.refl _ u0).alloc (Nat.le_refl _) _
          replace hS0 := RS.keep hS0 (b5.mono HBu0.out.size) hg0 hb0
          refine hK9.out _ (u0.alloc (.cells #[.slice none 0 0, .slice none 0 0] 49)) (fun _ => hS0) ?_
          (try simp only [Act.put, List.getElem_toArray, List.getElem_cons_succ, List.getElem_cons_zero, List.setIfInBounds_toArray, List.set_cons_zero, List.set_cons_succ])
          generalize hV : u0.alloc (.cells #[.slice none 0 0, .slice none 0 0] 49) = u1 at hbn b5 hS0 ⊢
          clear hV
          have hg : wr.heap.size ≤ u0.heap.size := HBu0.out.size
          have HBu1 := Lib.hid (HBu0.out.trans (b5.mono HBu0.out.size))
          have HP9u1 := Lib.hid hbn
          clear hbn b5
          generalize u0.heap.size = g9 at *
          have hg9 := hg
          clear hg
          refine wpAnyG_ready (rs := [5, 10]) (by kernel_rfl) (by simp) (AllReadyG.cons rfl (fun K5 hK5 => ?_) (AllReadyG.cons rfl (fun K10 hK10 => ?_) (AllReadyG.nil)))
          · refine step_callw (by rfl) 23 #[.agg #[.slice A n c, .slice A' n c'], .agg #[.int .i64 act, str key, .int .i64 val]] (by go_simp) ((HC.out u1 HBu1.out).mono ?_)
            rintro e u2 ⟨kv', vv', n', ks', vs', a1, a2, a3, A9, m9, c9, rfl, hv, hn', b5⟩
            refine ⟨_, rfl, ?_⟩
            obtain ⟨A7, c7, rfl⟩ := hv.k.form
            obtain ⟨A8, c8, rfl⟩ := hv.v.form
            replace hv : WV u2 (.slice A7 n' c7) (.slice A8 n' c8) n' ks' vs' := by have h' := hv; rw [hv.kl, hv.vl] at h'; exact h'
            have q1 := hv.kl
            have q2 := hv.vl
            rw [q1, q2]
            clear q1 q2
            have HP9u2 := Lib.hid (HP9u1.out.below b5 HP9u1.out.lt)
            have HVu2 := Lib.hid (And.intro hv hn')
            have HBu2 := Lib.hid (HBu1.out.trans (b5.mono HBu1.out.size))
            replace hS0 := RS.keep hS0 (b5.mono HBu1.out.size) hg0 hb0
            refine hK5.out _ _ (fun _ => hS0) ?_
            clear hv hn' b5
            simp only [Act.put, List.getElem_toArray, List.getElem_cons_succ, List.getElem_cons_zero, List.setIfInBounds_toArray, List.set_cons_zero, List.set_cons_succ]
            refine wpAnyG_take (i := 6) (v := ?_) rfl rfl (by kernel_rfl) (by kernel_rfl) (by kernel_rfl) (by kernel_rfl) (fun _ _ _ h => h) (by rfl) ?_ hS0 ?_
            rotate_left 1
            · intro w' hSw; (try dsimp only [RS] at hSw); go_simp; (try with_reducible rfl)
            simp only [Act.put, List.getElem_toArray, List.getElem_cons_succ, List.getElem_cons_zero, List.setIfInBounds_toArray, List.set_cons_zero, List.set_cons_succ]
            refine wpAnyG_take (i := 7) (v := ?_) rfl rfl (by kernel_rfl) (by kernel_rfl) (by kernel_rfl) (by kernel_rfl) (fun _ _ _ h => h) (by rfl) ?_ hS0 ?_
            rotate_left 1
            · intro w' hSw; (try dsimp only [RS] at hSw); go_simp; (try with_reducible rfl)
            simp only [Act.put, List.getElem_toArray, List.getElem_cons_succ, List.getElem_cons_zero, List.setIfInBounds_toArray, List.set_cons_zero, List.set_cons_succ]
            refine wpAnyG_take (i := 8) (v := ?_) rfl rfl (by kernel_rfl) (by kernel_rfl) (by kernel_rfl) (by kernel_rfl) (fun _ _ _ h => h) (by rfl) ?_ hS0 ?_
            rotate_left 1
            · intro w' hSw; (try dsimp only [RS] at hSw); go_simp; (try with_reducible rfl)
            simp only [Act.put, List.getElem_toArray, List.getElem_cons_succ, List.getElem_cons_zero, List.setIfInBounds_toArray, List.set_cons_zero, List.set_cons_succ]
            refine wpAnyG_ready (rs := [10]) (by kernel_rfl) (by simp) (AllReadyG.cons rfl (fun K10 hK10 => ?_) (AllReadyG.nil))
            go_simp
            have hbn := Blk.new u2 #[.int .i64 0, .bool false, str [], .slice none 0 0] 31
            have b5 : Below u2.heap.size u2 (u2.alloc (.cells #[.int .i64 0, .bool false, str [], .slice none 0 0] 31)) := (Below.refl _ u2).alloc (Nat.le_refl _) _
            replace hS0 := RS.keep hS0 (b5.mono HBu2.out.size) hg0 hb0
            refine hK10.out _ (u2.alloc (.cells #[.int .i64 0, .bool false, str [], .slice none 0 0] 31)) (fun _ => hS0) ?_
            (try simp only [Act.put, List.getElem_toArray, List.getElem_cons_succ, List.getElem_cons_zero, List.setIfInBounds_toArray, List.set_cons_zero, List.set_cons_succ])
            generalize hV : u2.alloc (.cells #[.int .i64 0, .bool false, str [], .slice none 0 0] 31) = u3 at hbn b5 hS0 ⊢
            clear hV
            have hg : wr.heap.size ≤ u2.heap.size := HBu2.out.size
            have HP9u3 := Lib.hid (HP9u2.out.below b5 HP9u2.out.lt)
            have hN : g9 < u2.heap.size := HP9u2.out.lt
            have HVu3 := Lib.hid (And.intro (HVu2.out.1.below b5) HVu2.out.2)
            have HBu3 := Lib.hid (HBu2.out.trans (b5.mono HBu2.out.size))
            have HP10u3 := Lib.hid hbn
            clear hbn b5
            generalize u2.heap.size = g10 at *
            have hg10 := hg
            clear hg
            have p0 : u3.cell? ⟨g9, 0, none⟩ = some (.slice none 0 0) := HP9u3.out.cell 0
            have p1 : u3.cell? ⟨g9, 1, none⟩ = some (.slice none 0 0) := HP9u3.out.cell 1
            have s0 : u3.cell? ⟨g10, 0, none⟩ = some (.int .i64 0) := HP10u3.out.cell 0
            have s1 : u3.cell? ⟨g10, 1, none⟩ = some (.bool false) := HP10u3.out.cell 1
            have s2 : u3.cell? ⟨g10, 2, none⟩ = some (str []) := HP10u3.out.cell 2
            have s3 : u3.cell? ⟨g10, 3, none⟩ = some (.slice none 0 0) := HP10u3.out.cell 3
            have pf := HP9u3.out.frozen
            have sf := HP10u3.out.frozen
            have hne : g9 ≠ g10 := by omega
            have r0 : ∀ u : World, Fr [g9, g10] u3 u → (RS w.heap.size b (off + k * 3) A n c A' c' act key val) u := fun u hu => RS.fr hS0 hu (by simp; omega) (by simp; omega)
            refine wpAnyG_ready (rs := [11]) (by kernel_rfl) (by simp) (AllReadyG.cons rfl (fun K11 hK11 => ?_) AllReadyG.nil)
            go_simp
            refine hK11.out _ _ (fun _ => r0 _ ((Fr.setCell u3 _ 0 _ (by simp)).comp (Fr.setCell _ _ 1 _ (by simp)))) ?_
            (try simp only [Act.put, List.getElem_toArray, List.getElem_cons_succ, List.getElem_cons_zero, List.setIfInBounds_toArray, List.set_cons_zero, List.set_cons_succ])
            refine wpAnyG_ready (rs := [12]) (by kernel_rfl) (by simp) (AllReadyG.cons rfl (fun K12 hK12 => ?_) AllReadyG.nil)
            go_simp
            refine hK12.out _ _ (fun _ => r0 _ ((((((Fr.setCell u3 _ 0 _ (by simp)).comp (Fr.setCell _ _ 1 _ (by simp))).comp (Fr.setCell _ _ 0 _ (by simp))).comp (Fr.setCell _ _ 1 _ (by simp))).comp (Fr.setCell _ _ 2 _ (by simp))).comp (Fr.setCell _ _ 3 _ (by simp)))) ?_
            refine wpAnyG_done (by kernel_rfl) ?_ _
            clear r0 p0 p1 s0 s1 s2 s3 pf sf
            obtain ⟨X, hX⟩ : ∃ X, X = ((((((u3.setCell ⟨g9, 0, none⟩ (.slice A7 n' c7)).setCell ⟨g9, 1, none⟩ (.slice A8 n' c8)).setCell ⟨g10, 0, none⟩ (.int .i64 a1)).setCell ⟨g10, 1, none⟩ (.bool a2)).setCell ⟨g10, 2, none⟩ (str a3)).setCell ⟨g10, 3, none⟩ (.slice A9 m9 c9)) := ⟨_, rfl⟩
            obtain ⟨hy, hv, hb⟩ := rem_end HP9u3.out HP10u3.out hne HBu3.out hg9 hg10 HVu3.out.1 _ _ _ _ X hX
            change Exit.then _ _ _ _ (((((((u3.setCell ⟨g9, 0, none⟩ (.slice A7 n' c7)).setCell ⟨g9, 1, none⟩ (.slice A8 n' c8)).setCell ⟨g10, 0, none⟩ (.int .i64 a1)).setCell ⟨g10, 1, none⟩ (.bool a2)).setCell ⟨g10, 2, none⟩ (str a3)).setCell ⟨g10, 3, none⟩ (.slice A9 m9 c9)))
            rw [← hX]
            have hz := HR0.out.1.below hb hg0
            have h0 : X.cell? ⟨g9, 0, none⟩ = some (.slice A7 n' c7) := hy.cell 0
            have h1 : X.cell? ⟨g9, 1, none⟩ = some (.slice A8 n' c8) := hy.cell 1
            have h2 : X.cell? ⟨w.heap.size, 0, none⟩ = some (.slice A n c) := hz.cell 0
            have h3 : X.cell? ⟨w.heap.size, 1, none⟩ = some (.slice A' n c') := hz.cell 1
            have hf := hz.frozen
            have HE := Lib.hid (RI.next hz hv (show n' ≤ k + 1 by have := HVu3.out.2; omega) (HR0.out.2.trans (hb.mono HR0.out.2.size)))
            clear hX hy hv hb hz
            go_wp2_with fail
            exact ⟨⟨k + 1, by omega, by go_num, HE⟩, by simp [intOf]; omega⟩
          · go_simp
            have hbn := Blk.new u1 #[.int .i64 0, .bool false, str [], .slice none 0 0] 31
            have b5 : Below u1.heap.size u1 (u1.alloc (.cells #[.int .i64 0, .bool false, str [], .slice none 0 0] 31)) := (Below.refl _ u1).alloc (Nat.le_refl _) _
            replace hS0 := RS.keep hS0 (b5.mono HBu1.out.size) hg0 hb0
            refine hK10.out _ (u1.alloc (.cells #[.int .i64 0, .bool false, str [], .slice none 0 0] 31)) (fun _ => hS0) ?_
            (try simp only [Act.put, List.getElem_toArray, List.getElem_cons_succ, List.getElem_cons_zero, List.setIfInBounds_toArray, List.set_cons_zero, List.set_cons_succ])
            generalize hV : u1.alloc (.cells #[.int .i64 0, .bool false, str [], .slice none 0 0] 31) = u2 at hbn b5 hS0 ⊢
            clear hV
            have hg : wr.heap.size ≤ u1.heap.size := HBu1.out.size
            have HP9u2 := Lib.hid (HP9u1.out.below b5 HP9u1.out.lt)
            have hN : g9 < u1.heap.size := HP9u1.out.lt
            have HBu2 := Lib.hid (HBu1.out.trans (b5.mono HBu1.out.size))
            have HP10u2 := Lib.hid hbn
            clear hbn b5
            generalize u1.heap.size = g10 at *
            have hg10 := hg
            clear hg
            refine wpAnyG_ready (rs := [5]) (by kernel_rfl) (by simp) (AllReadyG.cons rfl (fun K5 hK5 => ?_) (AllReadyG.nil))
            refine step_callw (by rfl) 23 #[.agg #[.slice A n c, .slice A' n c'], .agg #[.int .i64 act, str key, .int .i64 val]] (by go_simp) ((HC.out u2 HBu2.out).mono ?_)
            rintro e u3 ⟨kv', vv', n', ks', vs', a1, a2, a3, A9, m9, c9, rfl, hv, hn', b5⟩
            refine ⟨_, rfl, ?_⟩
            obtain ⟨A7, c7, rfl⟩ := hv.k.form
            obtain ⟨A8, c8, rfl⟩ := hv.v.form
            replace hv : WV u3 (.slice A7 n' c7) (.slice A8 n' c8) n' ks' vs' := by have h' := hv; rw [hv.kl, hv.vl] at h'; exact h'
            have q1 := hv.kl
            have q2 := hv.vl
            rw [q1, q2]
            clear q1 q2
            have HP9u3 := Lib.hid (HP9u2.out.below b5 HP9u2.out.lt)
            have HP10u3 := Lib.hid (HP10u2.out.below b5 HP10u2.out.lt)
            have HVu3 := Lib.hid (And.intro hv hn')
            have HBu3 := Lib.hid (HBu2.out.trans (b5.mono HBu2.out.size))
            replace hS0 := RS.keep hS0 (b5.mono HBu2.out.size) hg0 hb0
            refine hK5.out _ _ (fun _ => hS0) ?_
            clear hv hn' b5
            simp only [Act.put, List.getElem_toArray, List.getElem_cons_succ, List.getElem_cons_zero, List.setIfInBounds_toArray, List.set_cons_zero, List.set_cons_succ]
            refine wpAnyG_take (i := 6) (v := ?_) rfl rfl (by kernel_rfl) (by kernel_rfl) (by kernel_rfl) (by kernel_rfl) (fun _ _ _ h => h) (by rfl) ?_ hS0 ?_
            rotate_left 1
            · intro w' hSw; (try dsimp only [RS] at hSw); go_simp; (try with_reducible rfl)
            simp only [Act.put, List.getElem_toArray, List.getElem_cons_succ, List.getElem_cons_zero, List.setIfInBounds_toArray, List.set_cons_zero, List.set_cons_succ]
            refine wpAnyG_take (i := 7) (v := ?_) rfl rfl (by kernel_rfl) (by kernel_rfl) (by kernel_rfl) (by kernel_rfl) (fun _ _ _ h => h) (by rfl) ?_ hS0 ?_
            rotate_left 1
            · intro w' hSw; (try dsimp only [RS] at hSw); go_simp; (try with_reducible rfl)
            simp only [Act.put, List.getElem_toArray, List.getElem_cons_succ, List.getElem_cons_zero, List.setIfInBounds_toArray, List.set_cons_zero, List.set_cons_succ]
            refine wpAnyG_take (i := 8) (v := ?_) rfl rfl (by kernel_rfl) (by kernel_rfl) (by kernel_rfl) (by kernel_rfl) (fun _ _ _ h => h) (by rfl) ?_ hS0 ?_
            rotate_left 1
            · intro w' hSw; (try dsimp only [RS] at hSw); go_simp; (try with_reducible rfl)
            simp only [Act.put, List.getElem_toArray, List.getElem_cons_succ, List.getElem_cons_zero, List.setIfInBounds_toArray, List.set_cons_zero, List.set_cons_succ]
            have p0 : u3.cell? ⟨g9, 0, none⟩ = some (.slice none 0 0) := HP9u3.out.cell 0
            have p1 : u3.cell? ⟨g9, 1, none⟩ = some (.slice none 0 0) := HP9u3.out.cell 1
            have s0 : u3.cell? ⟨g10, 0, none⟩ = some (.int .i64 0) := HP10u3.out.cell 0
            have s1 : u3.cell? ⟨g10, 1, none⟩ = some (.bool false) := HP10u3.out.cell 1
            have s2 : u3.cell? ⟨g10, 2, none⟩ = some (str []) := HP10u3.out.cell 2
            have s3 : u3.cell? ⟨g10, 3, none⟩ = some (.slice none 0 0) := HP10u3.out.cell 3
            have pf := HP9u3.out.frozen
            have sf := HP10u3.out.frozen
            have hne : g9 ≠ g10 := by omega
            have r0 : ∀ u : World, Fr [g9, g10] u3 u → (RS w.heap.size b (off + k * 3) A n c A' c' act key val) u := fun u hu => RS.fr hS0 hu (by simp; omega) (by simp; omega)
            refine wpAnyG_ready (rs := [11]) (by kernel_rfl) (by simp) (AllReadyG.cons rfl (fun K11 hK11 => ?_) AllReadyG.nil)
            go_simp
            refine hK11.out _ _ (fun _ => r0 _ ((Fr.setCell u3 _ 0 _ (by simp)).comp (Fr.setCell _ _ 1 _ (by simp)))) ?_
            (try simp only [Act.put, List.getElem_toArray, List.getElem_cons_succ, List.getElem_cons_zero, List.setIfInBounds_toArray, List.set_cons_zero, List.set_cons_succ])
            refine wpAnyG_ready (rs := [12]) (by kernel_rfl) (by simp) (AllReadyG.cons rfl (fun K12 hK12 => ?_) AllReadyG.nil)
            go_simp
            refine hK12.out _ _ (fun _ => r0 _ ((((((Fr.setCell u3 _ 0 _ (by simp)).comp (Fr.setCell _ _ 1 _ (by simp))).comp (Fr.setCell _ _ 0 _ (by simp))).comp (Fr.setCell _ _ 1 _ (by simp))).comp (Fr.setCell _ _ 2 _ (by simp))).comp (Fr.setCell _ _ 3 _ (by simp)))) ?_
            refine wpAnyG_done (by kernel_rfl) ?_ _
            clear r0 p0 p1 s0 s1 s2 s3 pf sf
            obtain ⟨X, hX⟩ : ∃ X, X = ((((((u3.setCell ⟨g9, 0, none⟩ (.slice A7 n' c7)).setCell ⟨g9, 1, none⟩ (.slice A8 n' c8)).setCell ⟨g10, 0, none⟩ (.int .i64 a1)).setCell ⟨g10, 1, none⟩ (.bool a2)).setCell ⟨g10, 2, none⟩ (str a3)).setCell ⟨g10, 3, none⟩ (.slice A9 m9 c9)) := ⟨_, rfl⟩
            obtain ⟨hy, hv, hb⟩ := rem_end HP9u3.out HP10u3.out hne HBu3.out hg9 hg10 HVu3.out.1 _ _ _ _ X hX
            change Exit.then _ _ _ _ (((((((u3.setCell ⟨g9, 0, none⟩ (.slice A7 n' c7)).setCell ⟨g9, 1, none⟩ (.slice A8 n' c8)).setCell ⟨g10, 0, none⟩ (.int .i64 a1)).setCell ⟨g10, 1, none⟩ (.bool a2)).setCell ⟨g10, 2, none⟩ (str a3)).setCell ⟨g10, 3, none⟩ (.slice A9 m9 c9)))
            rw [← hX]
            have hz := HR0.out.1.below hb hg0
            have h0 : X.cell? ⟨g9, 0, none⟩ = some (.slice A7 n' c7) := hy.cell 0
            have h1 : X.cell? ⟨g9, 1, none⟩ = some (.slice A8 n' c8) := hy.cell 1
            have h2 : X.cell? ⟨w.heap.size, 0, none⟩ = some (.slice A n c) := hz.cell 0
            have h3 : X.cell? ⟨w.heap.size, 1, none⟩ = some (.slice A' n c') := hz.cell 1
            have hf := hz.frozen
            have HE := Lib.hid (RI.next hz hv (show n' ≤ k + 1 by have := HVu3.out.2; omega) (HR0.out.2.trans (hb.mono HR0.out.2.size)))
            clear hX hy hv hb hz
            go_wp2_with fail
            exact ⟨⟨k + 1, by omega, by go_num, HE⟩, by simp [intOf]; omega⟩
        · go_simp
          have hbn := Blk.new u0 #[.int .i64 0, .bool false, str [], .slice none 0 0] 31
          have b5 : Below u0.heap.size u0 (u0.alloc (.cells #[.int .i64 0, .bool false, str [], .slice none 0 0] 31)) := (Below.refl _ u0).alloc (Nat.le_refl _) _
          replace hS0 := RS.keep hS0 (b5.mono HBu0.out.size) hg0 hb0
          refine hK10.out _ (u0.alloc (.cells #[.int .i64 0, .bool false, str [], .slice none 0 0] 31)) (fun _ => hS0) ?_
          (try simp only [Act.put, List.getElem_toArray, List.getElem_cons_succ, List.getElem_cons_zero, List.setIfInBounds_toArray, List.set_cons_zero, List.set_cons_succ])
          generalize hV : u0.alloc (.cells #[.int .i64 0, .bool false, str [], .slice none 0 0] 31) = u1 at hbn b5 hS0 ⊢
          clear hV
          have hg : wr.heap.size ≤ u0.heap.size := HBu0.out.size
          have HBu1 := Lib.hid (HBu0.out.trans (b5.mono HBu0.out.size))
          have HP10u1 := Lib.hid hbn
          clear hbn b5
          generalize u0.heap.size = g10 at *
          have hg10 := hg
          clear hg
          refine wpAnyG_ready (rs := [5, 9]) (by kernel_rfl) (by simp) (AllReadyG.cons rfl (fun K5 hK5 => ?_) (AllReadyG.cons rfl (fun K9 hK9 => ?_) (AllReadyG.nil)))
          · refine step_callw (by rfl) 23 #[.agg #[.slice A n c, .slice A' n c'], .agg #[.int .i64 act, str key, .int .i64 val]] (by go_simp) ((HC.out u1 HBu1.out).mono ?_)
            rintro e u2 ⟨kv', vv', n', ks', vs', a1, a2, a3, A9, m9, c9, rfl, hv, hn', b5⟩
            refine ⟨_, rfl, ?_⟩
            obtain ⟨A7, c7, rfl⟩ := hv.k.form
            obtain ⟨A8, c8, rfl⟩ := hv.v.form
            replace hv : WV u2 (.slice A7 n' c7) (.slice A8 n' c8) n' ks' vs' := by have h' := hv; rw [hv.kl, hv.vl] at h'; exact h'
            have q1 := hv.kl
            have q2 := hv.vl
            rw [q1, q2]
            clear q1 q2
            have HP10u2 := Lib.hid (HP10u1.out.below b5 HP10u1.out.lt)
            have HVu2 := Lib.hid (And.intro hv hn')
            have HBu2 := Lib.hid (HBu1.out.trans (b5.mono HBu1.out.size))
            replace hS0 := RS.keep hS0 (b5.mono HBu1.out.size) hg0 hb0
            refine hK5.out _ _ (fun _ => hS0) ?_
            clear hv hn' b5
            simp only [Act.put, List.getElem_toArray, List.getElem_cons_succ, List.getElem_cons_zero, List.setIfInBounds_toArray, List.set_cons_zero, List.set_cons_succ]
            refine wpAnyG_take (i := 6) (v := ?_) rfl rfl (by kernel_rfl) (by kernel_rfl) (by kernel_rfl) (by kernel_rfl) (fun _ _ _ h => h) (by rfl) ?_ hS0 ?_
            rotate_left 1
            · intro w' hSw; (try dsimp only [RS] at hSw); go_simp; (try with_reducible rfl)
            simp only [Act.put, List.getElem_toArray, List.getElem_cons_succ, List.getElem_cons_zero, List.setIfInBounds_toArray, List.set_cons_zero, List.set_cons_succ]
            refine wpAnyG_take (i := 7) (v := ?_) rfl rfl (by kernel_rfl) (by kernel_rfl) (by kernel_rfl) (by kernel_rfl) (fun _ _ _ h => h) (by rfl) ?_ hS0 ?_
            rotate_left 1
            · intro w' hSw; (try dsimp only [RS] at hSw); go_simp; (try with_reducible rfl)
            simp only [Act.put, List.getElem_toArray, List.getElem_cons_succ, List.getElem_cons_zero, List.setIfInBounds_toArray, List.set_cons_zero, List.set_cons_succ]
            refine wpAnyG_take (i := 8) (v := ?_) rfl rfl (by kernel_rfl) (by kernel_rfl) (by kernel_rfl) (by kernel_rfl) (fun _ _ _ h => h) (by rfl) ?_ hS0 ?_
            rotate_left 1
            · intro w' hSw; (try dsimp only [RS] at hSw); go_simp; (try with_reducible rfl)
            simp only [Act.put, List.getElem_toArray, List.getElem_cons_succ, List.getElem_cons_zero, List.setIfInBounds_toArray, List.set_cons_zero, List.set_cons_succ]
            refine wpAnyG_ready (rs := [9]) (by kernel_rfl) (by simp) (AllReadyG.cons rfl (fun K9 hK9 => ?_) (AllReadyG.nil))
            go_simp
            have hbn := Blk.new u2 #[.slice none 0 0, .slice none 0 0] 49
            have b5 : Below u2.heap.size u2 (u2.alloc (.cells #[.slice none 0 0, .slice none 0 0] 49)) := (Below.refl _ u2).alloc (Nat.le_refl _) _
            replace hS0 := RS.keep hS0 (b5.mono HBu2.out.size) hg0 hb0
            refine hK9.out _ (u2.alloc (.cells #[.slice none 0 0, .slice none 0 0] 49)) (fun _ => hS0) ?_
            (try simp only [Act.put, List.getElem_toArray, List.getElem_cons_succ, List.getElem_cons_zero, List.setIfInBounds_toArray, List.set_cons_zero, List.set_cons_succ])
            generalize hV : u2.alloc (.cells #[.slice none 0 0, .slice none 0 0] 49) = u3 at hbn b5 hS0 ⊢
            clear hV
            have hg : wr.heap.size ≤ u2.heap.size := HBu2.out.size
            have HP10u3 := Lib.hid (HP10u2.out.below b5 HP10u2.out.lt)
            have hN : g10 < u2.heap.size := HP10u2.out.lt
            have HVu3 := Lib.hid (And.intro (HVu2.out.1.below b5) HVu2.out.2)
            have HBu3 := Lib.hid (HBu2.out.trans (b5.mono HBu2.out.size))
            have HP9u3 := Lib.hid hbn
            clear hbn b5
            generalize u2.heap.size = g9 at *
            have hg9 := hg
            clear hg
            have p0 : u3.cell? ⟨g9, 0, none⟩ = some (.slice none 0 0) := HP9u3.out.cell 0
            have p1 : u3.cell? ⟨g9, 1, none⟩ = some (.slice none 0 0) := HP9u3.out.cell 1
            have s0 : u3.cell? ⟨g10, 0, none⟩ = some (.int .i64 0) := HP10u3.out.cell 0
            have s1 : u3.cell? ⟨g10, 1, none⟩ = some (.bool false) := HP10u3.out.cell 1
            have s2 : u3.cell? ⟨g10, 2, none⟩ = some (str []) := HP10u3.out.cell 2
            have s3 : u3.cell? ⟨g10, 3, none⟩ = some (.slice none 0 0) := HP10u3.out.cell 3
            have pf := HP9u3.out.frozen
            have sf := HP10u3.out.frozen
            have hne : g9 ≠ g10 := by omega
            have r0 : ∀ u : World, Fr [g9, g10] u3 u → (RS w.heap.size b (off + k * 3) A n c A' c' act key val) u := fun u hu => RS.fr hS0 hu (by simp; omega) (by simp; omega)
            refine wpAnyG_ready (rs := [11]) (by kernel_rfl) (by simp) (AllReadyG.cons rfl (fun K11 hK11 => ?_) AllReadyG.nil)
            go_simp
            refine hK11.out _ _ (fun _ => r0 _ ((Fr.setCell u3 _ 0 _ (by simp)).comp (Fr.setCell _ _ 1 _ (by simp)))) ?_
            (try simp only [Act.put, List.getElem_toArray, List.getElem_cons_succ, List.getElem_cons_zero, List.setIfInBounds_toArray, List.set_cons_zero, List.set_cons_succ])
            refine wpAnyG_ready (rs := [12]) (by kernel_rfl) (by simp) (AllReadyG.cons rfl (fun K12 hK12 => ?_) AllReadyG.nil)
            go_simp
            refine hK12.out _ _ (fun _ => r0 _ ((((((Fr.setCell u3 _ 0 _ (by simp)).comp (Fr.setCell _ _ 1 _ (by simp))).comp (Fr.setCell _ _ 0 _ (by simp))).comp (Fr.setCell _ _ 1 _ (by simp))).comp (Fr.setCell _ _ 2 _ (by simp))).comp (Fr.setCell _ _ 3 _ (by simp)))) ?_
            refine wpAnyG_done (by kernel_rfl) ?_ _
            clear r0 p0 p1 s0 s1 s2 s3 pf sf
            obtain ⟨X, hX⟩ : ∃ X, X = ((((((u3.setCell ⟨g9, 0, none⟩ (.slice A7 n' c7)).setCell ⟨g9, 1, none⟩ (.slice A8 n' c8)).setCell ⟨g10, 0, none⟩ (.int .i64 a1)).setCell ⟨g10, 1, none⟩ (.bool a2)).setCell ⟨g10, 2, none⟩ (str a3)).setCell ⟨g10, 3, none⟩ (.slice A9 m9 c9)) := ⟨_, rfl⟩
            obtain ⟨hy, hv, hb⟩ := rem_end HP9u3.out HP10u3.out hne HBu3.out hg9 hg10 HVu3.out.1 _ _ _ _ X hX
            change Exit.then _ _ _ _ (((((((u3.setCell ⟨g9, 0, none⟩ (.slice A7 n' c7)).setCell ⟨g9, 1, none⟩ (.slice A8 n' c8)).setCell ⟨g10, 0, none⟩ (.int .i64 a1)).setCell ⟨g10, 1, none⟩ (.bool a2)).setCell ⟨g10, 2, none⟩ (str a3)).setCell ⟨g10, 3, none⟩ (.slice A9 m9 c9)))
            rw [← hX]
            have hz := HR0.out.1.below hb hg0
            have h0 : X.cell? ⟨g9, 0, none⟩ = some (.slice A7 n' c7) := hy.cell 0
            have h1 : X.cell? ⟨g9, 1, none⟩ = some (.slice A8 n' c8) := hy.cell 1
            have h2 : X.cell? ⟨w.heap.size, 0, none⟩ = some (.slice A n c) := hz.cell 0
            have h3 : X.cell? ⟨w.heap.size, 1, none⟩ = some (.slice A' n c') := hz.cell 1
            have hf := hz.frozen
            have HE := Lib.hid (RI.next hz hv (show n' ≤ k + 1 by have := HVu3.out.2; omega) (HR0.out.2.trans (hb.mono HR0.out.2.size)))
            clear hX hy hv hb hz
            go_wp2_with fail
            exact ⟨⟨k + 1, by omega, by go_num, HE⟩, by simp [intOf]; omega⟩
          · go_simp
            have hbn := Blk.new u1 #[.slice none 0 0, .slice none 0 0] 49
            have b5 : Below u1.heap.size u1 (u1.alloc (.cells #[.slice none 0 0, .slice none 0 0] 49)) := (Below.refl _ u1).alloc (Nat.le_refl _) _
            replace hS0 := RS.keep hS0 (b5.mono HBu1.out.size) hg0 hb0
            refine hK9.out _ (u1.alloc (.cells #[.slice none 0 0, .slice none 0 0] 49)) (fun _ => hS0) ?_
            (try simp only [Act.put, List.getElem_toArray, List.getElem_cons_succ, List.getElem_cons_zero, List.setIfInBounds_toArray, List.set_cons_zero, List.set_cons_succ])
            generalize hV : u1.alloc (.cells #[.slice none 0 0, .slice none 0 0] 49) = u2 at hbn b5 hS0 ⊢
            clear hV
            have hg : wr.heap.size ≤ u1.heap.size := HBu1.out.size
            have HP10u2 := Lib.hid (HP10u1.out.below b5 HP10u1.out.lt)
            have hN : g10 < u1.heap.size := HP10u1.out.lt
            have HBu2 := Lib.hid (HBu1.out.trans (b5.mono HBu1.out.size))
            have HP9u2 := Lib.hid hbn
            clear hbn b5
            generalize u1.heap.size = g9 at *
            have hg9 := hg
            clear hg
            refine wpAnyG_ready (rs := [5]) (by kernel_rfl) (by simp) (AllReadyG.cons rfl (fun K5 hK5 => ?_) (AllReadyG.nil))
            refine step_callw (by rfl) 23 #[.agg #[.slice A n c, .slice A' n c'], .agg #[.int .i64 act, str key, .int .i64 val]] (by go_simp) ((HC.out u2 HBu2.out).mono ?_)
            rintro e u3 ⟨kv', vv', n', ks', vs', a1, a2, a3, A9, m9, c9, rfl, hv, hn', b5⟩
            refine ⟨_, rfl, ?_⟩
            obtain ⟨A7, c7, rfl⟩ := hv.k.form
            obtain ⟨A8, c8, rfl⟩ := hv.v.form
            replace hv : WV u3 (.slice A7 n' c7) (.slice A8 n' c8) n' ks' vs' := by have h' := hv; rw [hv.kl, hv.vl] at h'; exact h'
            have q1 := hv.kl
            have q2 := hv.vl
            rw [q1, q2]
            clear q1 q2
            have HP10u3 := Lib.hid (HP10u2.out.below b5 HP10u2.out.lt)
            have HP9u3 := Lib.hid (HP9u2.out.below b5 HP9u2.out.lt)
            have HVu3 := Lib.hid (And.intro hv hn')
            have HBu3 := Lib.hid (HBu2.out.trans (b5.mono HBu2.out.size))
            replace hS0 := RS.keep hS0 (b5.mono HBu2.out.size) hg0 hb0
            refine hK5.out _ _ (fun _ => hS0) ?_
            clear hv hn' b5
            simp only [Act.put, List.getElem_toArray, List.getElem_cons_succ, List.getElem_cons_zero, List.setIfInBounds_toArray, List.set_cons_zero, List.set_cons_succ]
            refine wpAnyG_take (i := 6) (v := ?_) rfl rfl (by kernel_rfl) (by kernel_rfl) (by kernel_rfl) (by kernel_rfl) (fun _ _ _ h => h) (by rfl) ?_ hS0 ?_
            rotate_left 1
            · intro w' hSw; (try dsimp only [RS] at hSw); go_simp; (try with_reducible rfl)
            simp only [Act.put, List.getElem_toArray, List.getElem_cons_succ, List.getElem_cons_zero, List.setIfInBounds_toArray, List.set_cons_zero, List.set_cons_succ]
            refine wpAnyG_take (i := 7) (v := ?_) rfl rfl (by kernel_rfl) (by kernel_rfl) (by kernel_rfl) (by kernel_rfl) (fun _ _ _ h => h) (by rfl) ?_ hS0 ?_
            rotate_left 1
            · intro w' hSw; (try dsimp only [RS] at hSw); go_simp; (try with_reducible rfl)
            simp only [Act.put, List.getElem_toArray, List.getElem_cons_succ, List.getElem_cons_zero, List.setIfInBounds_toArray, List.set_cons_zero, List.set_cons_succ]
            refine wpAnyG_take (i := 8) (v := ?_) rfl rfl (by kernel_rfl) (by kernel_rfl) (by kernel_rfl) (by kernel_rfl) (fun _ _ _ h => h) (by rfl) ?_ hS0 ?_
            rotate_left 1
            · intro w' hSw; (try dsimp only [RS] at hSw); go_simp; (try with_reducible rfl)
            simp only [Act.put, List.getElem_toArray, List.getElem_cons_succ, List.getElem_cons_zero, List.setIfInBounds_toArray, List.set_cons_zero, List.set_cons_succ]
            have p0 : u3.cell? ⟨g9, 0, none⟩ = some (.slice none 0 0) := HP9u3.out.cell 0
            have p1 : u3.cell? ⟨g9, 1, none⟩ = some (.slice none 0 0) := HP9u3.out.cell 1
            have s0 : u3.cell? ⟨g10, 0, none⟩ = some (.int .i64 0) := HP10u3.out.cell 0
            have s1 : u3.cell? ⟨g10, 1, none⟩ = some (.bool false) := HP10u3.out.cell 1
            have s2 : u3.cell? ⟨g10, 2, none⟩ = some (str []) := HP10u3.out.cell 2
            have s3 : u3.cell? ⟨g10, 3, none⟩ = some (.slice none 0 0) := HP10u3.out.cell 3
            have pf := HP9u3.out.frozen
            have sf := HP10u3.out.frozen
            have hne : g9 ≠ g10 := by omega
            have r0 : ∀ u : World, Fr [g9, g10] u3 u → (RS w.heap.size b (off + k * 3) A n c A' c' act key val) u := fun u hu => RS.fr hS0 hu (by simp; omega) (by simp; omega)
            refine wpAnyG_ready (rs := [11]) (by kernel_rfl) (by simp) (AllReadyG.cons rfl (fun K11 hK11 => ?_) AllReadyG.nil)
            go_simp
            refine hK11.out _ _ (fun _ => r0 _ ((Fr.setCell u3 _ 0 _ (by simp)).comp (Fr.setCell _ _ 1 _ (by simp)))) ?_
            (try simp only [Act.put, List.getElem_toArray, List.getElem_cons_succ, List.getElem_cons_zero, List.setIfInBounds_toArray, List.set_cons_zero, List.set_cons_succ])
            refine wpAnyG_ready (rs := [12]) (by kernel_rfl) (by simp) (AllReadyG.cons rfl (fun K12 hK12 => ?_) AllReadyG.nil)
            go_simp
            refine hK12.out _ _ (fun _ => r0 _ ((((((Fr.setCell u3 _ 0 _ (by simp)).comp (Fr.setCell _ _ 1 _ (by simp))).comp (Fr.setCell _ _ 0 _ (by simp))).comp (Fr.setCell _ _ 1 _ (by simp))).comp (Fr.setCell _ _ 2 _ (by simp))).comp (Fr.setCell _ _ 3 _ (by simp)))) ?_
            refine wpAnyG_done (by kernel_rfl) ?_ _
            clear r0 p0 p1 s0 s1 s2 s3 pf sf
            obtain ⟨X, hX⟩ : ∃ X, X = ((((((u3.setCell ⟨g9, 0, none⟩ (.slice A7 n' c7)).setCell ⟨g9, 1, none⟩ (.slice A8 n' c8)).setCell ⟨g10, 0, none⟩ (.int .i64 a1)).setCell ⟨g10, 1, none⟩ (.bool a2)).setCell ⟨g10, 2, none⟩ (str a3)).setCell ⟨g10, 3, none⟩ (.slice A9 m9 c9)) := ⟨_, rfl⟩
            obtain ⟨hy, hv, hb⟩ := rem_end HP9u3.out HP10u3.out hne HBu3.out hg9 hg10 HVu3.out.1 _ _ _ _ X hX
            change Exit.then _ _ _ _ (((((((u3.setCell ⟨g9, 0, none⟩ (.slice A7 n' c7)).setCell ⟨g9, 1, none⟩ (.slice A8 n' c8)).setCell ⟨g10, 0, none⟩ (.int .i64 a1)).setCell ⟨g10, 1, none⟩ (.bool a2)).setCell ⟨g10, 2, none⟩ (str a3)).setCell ⟨g10, 3, none⟩ (.slice A9 m9 c9)))
            rw [← hX]
            have hz := HR0.out.1.below hb hg0
            have h0 : X.cell? ⟨g9, 0, none⟩ = some (.slice A7 n' c7) := hy.cell 0
            have h1 : X.cell? ⟨g9, 1, none⟩ = some (.slice A8 n' c8) := hy.cell 1
            have h2 : X.cell? ⟨w.heap.size, 0, none⟩ = some (.slice A n c) := hz.cell 0
            have h3 : X.cell? ⟨w.heap.size, 1, none⟩ = some (.slice A' n c') := hz.cell 1
            have hf := hz.frozen
            have HE := Lib.hid (RI.next hz hv (show n' ≤ k + 1 by have := HVu3.out.2; omega) (HR0.out.2.trans (hb.mono HR0.out.2.size)))
            clear hX hy hv hb hz
            go_wp2_with fail
            exact ⟨⟨k + 1, by omega, by go_num, HE⟩, by simp [intOf]; omega⟩
    · have HE := Lib.hid hB
      clear hv hx0 hB HK
      go_wp2_with fail
      go_ret
      exact ⟨_, rfl, .inr rfl, HE.out⟩
end Go.Proofs.Ytlpcddmcddenfaa.Kp
