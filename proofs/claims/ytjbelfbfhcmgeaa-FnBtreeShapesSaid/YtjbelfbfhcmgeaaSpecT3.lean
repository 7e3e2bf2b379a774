/- spec.Tree: Remove, Get, Step. -/
import Derived.Test.YtjbelfbfhcmgeaaSpecT2
import Derived.Test.YtjbelfbfhcmgeaaAvlO
namespace Go.Proofs.Ytjbelfbfhcmgeaa.Kp
open Go.RowKit Om

set_option maxRecDepth 100000 in
set_option maxHeartbeats 1600000 in
theorem trem_calls (xs : List Int) (tv : Value) (m : R) (kv vv : Value) (k : Int) (w : World) (ht : SlR w w.heap.size tv (xs.map i64v)) (hm : TT w kv vv m) (hr : Rises (rankOf xs) m) (hn : m.length ≤ 10000000000) :
    Calls Try.prog 45 #[.agg #[kv, vv], tv, .int .i64 k] w (TPost w (remL (rankOf xs) k m)) := by
  obtain ⟨At, ct, rfl⟩ := ht.form
  rw [List.length_map] at *
  have hp := posT_le (rankOf xs) k (m.map Prod.fst)
  rw [List.length_map] at hp
  have HPL := Lib.hid (remL_pos (rankOf xs) k m hr)
  have HIP := Lib.hid (fun h => isT_lt (r := rankOf xs) (k := k) (ks := m.map Prod.fst) h)
  obtain ⟨Ak, ck, Av, cv, rfl, rfl⟩ := hm.forms
  have b0 : Below w.heap.size w ((w.alloc (.cells #[.slice Ak m.length ck, .slice Av m.length cv] 42)).alloc (.cells #[.slice none 0 0, .slice none 0 0] 42)) := ((Below.refl _ w).alloc (Nat.le_refl _) _).alloc (by simp) _
  have hb0 : Blk ((w.alloc (.cells #[.slice Ak m.length ck, .slice Av m.length cv] 42)).alloc (.cells #[.slice none 0 0, .slice none 0 0] 42)) w.heap.size #[.slice Ak m.length ck, .slice Av m.length cv] 42 := (Blk.new _ _ _).alloc _
  have hb1 : Blk ((w.alloc (.cells #[.slice Ak m.length ck, .slice Av m.length cv] 42)).alloc (.cells #[.slice none 0 0, .slice none 0 0] 42)) (w.heap.size + 1) #[.slice none 0 0, .slice none 0 0] 42 := by
    have := Blk.new (w.alloc (.cells #[.slice Ak m.length ck, .slice Av m.length cv] 42)) #[.slice none 0 0, .slice none 0 0] 42
    rwa [show (w.alloc (.cells #[.slice Ak m.length ck, .slice Av m.length cv] 42)).heap.size = w.heap.size + 1 by simp] at this
  have HM := Lib.hid hm
  have HT := Lib.hid ht
  clear ht hm hr
  go_enter Try.func45, Try.ntmps45
  go_wp2_with fail
  generalize ((w.alloc (.cells #[.slice Ak m.length ck, .slice Av m.length cv] 42)).alloc (.cells #[.slice none 0 0, .slice none 0 0] 42)) = W at *
  have hF := find_calls xs _ (m.map Prod.fst) (.slice Ak m.length ck) (.slice Av m.length cv) ⟨_, _, _, rfl⟩ k W ((HT.out.below b0).mono b0.size) ((HM.out.below b0).ks) (by simp; omega)
  generalize posT (rankOf xs) k (m.map Prod.fst) = p at *
  generalize isT (rankOf xs) k (m.map Prod.fst) = is at *
  refine hF.mono ?_
  rintro e w1 ⟨rfl, b1⟩
  have B1 := b0.trans (b1.mono b0.size)
  have hb0' := hb0.below b1 hb0.lt
  have hb1' := hb1.below b1 hb1.lt
  have B01 := b0.size
  clear hF
  have c0 := hb0'.cell 0
  have c1 := hb0'.cell 1
  have d0 := hb1'.cell 0
  have d1 := hb1'.cell 1
  have df := hb1'.frozen
  have HV := Lib.hid (fun (w' : World) (hb : Below w.heap.size w w') => (HM.out.below hb).vs)
  have HKS := Lib.hid (fun (w' : World) (hb : Below w.heap.size w w') => (HM.out.below hb).ks)
  have hbox := Lib.hid (And.intro hb0' hb1')
  clear hb0 hb1 b1 hb0' hb1'
  cases is with
  | false =>
    have HF := Lib.hid (TT.put (w := w) (m2 := m) hbox.out.2 (Nat.le_succ _) B1 (HKS.out w1 B1) (HV.out w1 B1) 0 1 (.slice Ak m.length ck) (.slice Av m.length cv))
    have HPL2 : Hid (remL (rankOf xs) k m = m) := Lib.hid (by rw [HPL.out]; rfl)
    go_wp2_with fail
    refine bodyPost_ret (v := .agg #[.slice Ak m.length ck, .slice Av m.length cv]) (by simp [results, Try.results45, go_sem, d0, d1]) rfl ⟨_, _, rfl, ?_, ?_⟩
    · rw [HPL2.out]
      first | exact HF.out.1 | exact (HF.out.1.drewN 1 : TT (World.drewN _ 1) _ _ _)
    · first | exact HF.out.2 | exact HF.out.2.drew
  | true =>
    have hpl : p < m.length := by have := HIP.out rfl; simpa using this
    have e1 : (m.map Prod.fst).take p ++ (m.map Prod.fst).drop (p + 1) = (m.take p ++ m.drop (p + 1)).map Prod.fst := by simp
    have e2 : (m.map Prod.snd).take p ++ (m.map Prod.snd).drop (p + 1) = (m.take p ++ m.drop (p + 1)).map Prod.snd := by simp
    have HC := Lib.hid (fun (w' : World) (hb : Below w.heap.size w w') => cut_calls (m.map Prod.fst) _ p w' (HKS.out w' hb) (by simpa using hpl) (by simp; omega))
    have HP := Lib.hid (fun (w' : World) (hb : Below w.heap.size w w') => cut_calls (m.map Prod.snd) _ p w' (HV.out w' hb) (by simpa using hpl) (by simp; omega))
    rw [e1] at HC
    rw [e2] at HP
    have HPL2 : Hid (remL (rankOf xs) k m = m.take p ++ m.drop (p + 1)) := Lib.hid (by rw [HPL.out]; rfl)
    clear HPL e1 e2
    generalize m.take p ++ m.drop (p + 1) = m2 at *
    go_wp2_with fail
    go_region_with (first
      | (go_at_call_of 62 (Ak); refine (HC.out _ (by first | exact B1 | exact B1.drew)).mono ?_; rintro e w2 ⟨v2, rfl, o2, b2⟩
         replace b2 : Below w1.heap.size w1 w2 := ⟨b2.os, b2.tape, b2.output, b2.size, b2.block⟩
         have B2 : Below w.heap.size w w2 := B1.trans (b2.mono B1.size)
         have h0 : Blk w2 w.heap.size #[.slice Ak m.length ck, .slice Av m.length cv] 42 := hbox.out.1.below b2 hbox.out.1.lt
         have h1 : Blk w2 (w.heap.size + 1) #[.slice none 0 0, .slice none 0 0] 42 := hbox.out.2.below b2 hbox.out.2.lt
         have e0 := h0.cell 0
         have e1 := h0.cell 1
         obtain ⟨A2, c2, rfl⟩ := kd_form o2)
      | (go_at_call_of 62 (Av); refine (HP.out _ (by first | exact B2 | exact B2.drew)).mono ?_; rintro e w3 ⟨v3, rfl, o3, b3⟩
         replace b3 : Below w2.heap.size w2 w3 := ⟨b3.os, b3.tape, b3.output, b3.size, b3.block⟩
         have B3 : Below w.heap.size w w3 := B2.trans (b3.mono B2.size)
         have g1 : Blk w3 (w.heap.size + 1) #[.slice none 0 0, .slice none 0 0] 42 := h1.below b3 h1.lt
         have l0 := g1.cell 0
         have l1 := g1.cell 1
         have lf := g1.frozen
         have o2' := kd_below b3 o2
         have hN3 : NS w3 v3 (m2.map Prod.snd) := own_NS rfl o3
         obtain ⟨A3, c3, rfl⟩ := kd_form o3
         have HF := Lib.hid (TT.put (w := w) (m2 := m2) g1 (Nat.le_succ _) B3 (own_NS rfl o2') hN3 0 1 (.slice A2 (m2.map Prod.fst).length c2) (.slice A3 (m2.map Prod.snd).length c3))
         simp only [List.length_map] at HF))
    all_goals
      go_wp2_with fail
      refine bodyPost_ret (v := .agg #[.slice A2 m2.length c2, .slice A3 m2.length c3]) (by simp [results, Try.results45, go_sem, l0, l1]) rfl ⟨_, _, rfl, ?_, ?_⟩
      · rw [HPL2.out]
        first | exact HF.out.1 | exact (HF.out.1.drewN 1 : TT (World.drewN _ 1) _ _ _)
      · first | exact HF.out.2 | exact HF.out.2.drew
def getT (r : Int → Int) (k : Int) (m : R) : Int × Bool := match getL r k m with | some p => (p.2, true) | none => (0, false)
set_option maxRecDepth 100000 in
set_option maxHeartbeats 1600000 in
theorem tget_calls (xs : List Int) (tv : Value) (m : R) (kv vv : Value) (k : Int) (w : World) (ht : SlR w w.heap.size tv (xs.map i64v)) (hm : TT w kv vv m) (hr : Rises (rankOf xs) m) (hn : m.length ≤ 10000000000) :
    Calls Try.prog 46 #[.agg #[kv, vv], tv, .int .i64 k] w fun e w' => e = .returned (.tuple #[.int .i64 (getT (rankOf xs) k m).1, .bool (getT (rankOf xs) k m).2]) ∧ Below w.heap.size w w' := by
  obtain ⟨At, ct, rfl⟩ := ht.form
  rw [List.length_map] at *
  have HPL := Lib.hid (getL_pos (rankOf xs) k m hr)
  have HIP := Lib.hid (fun h => isT_lt (r := rankOf xs) (k := k) (ks := m.map Prod.fst) h)
  obtain ⟨Ak, ck, Av, cv, rfl, rfl⟩ := hm.forms
  have b0 : Below w.heap.size w (w.alloc (.cells #[.slice Ak m.length ck, .slice Av m.length cv] 42)) := (Below.refl _ w).alloc (Nat.le_refl _) _
  have hb0 : Blk (w.alloc (.cells #[.slice Ak m.length ck, .slice Av m.length cv] 42)) w.heap.size #[.slice Ak m.length ck, .slice Av m.length cv] 42 := Blk.new _ _ _
  have HM := Lib.hid hm
  have HT := Lib.hid ht
  clear ht hm hr
  go_enter Try.func46, Try.ntmps46
  go_wp2_with fail
  generalize (w.alloc (.cells #[.slice Ak m.length ck, .slice Av m.length cv] 42)) = W at *
  have hF := find_calls xs _ (m.map Prod.fst) (.slice Ak m.length ck) (.slice Av m.length cv) ⟨_, _, _, rfl⟩ k W ((HT.out.below b0).mono b0.size) ((HM.out.below b0).ks) (by simp; omega)
  generalize posT (rankOf xs) k (m.map Prod.fst) = p at *
  generalize isT (rankOf xs) k (m.map Prod.fst) = is at *
  refine hF.mono ?_
  rintro e w1 ⟨rfl, b1⟩
  have B1 := b0.trans (b1.mono b0.size)
  have hb0' := hb0.below b1 hb0.lt
  have c0 := hb0'.cell 0
  have c1 := hb0'.cell 1
  have HV := Lib.hid ((HM.out.below B1).vs)
  clear hF hb0 b1 hb0'
  cases is with
  | false =>
    have HG : Hid (getT (rankOf xs) k m = (0, false)) := Lib.hid (by unfold getT; rw [HPL.out]; rfl)
    clear HPL
    go_wp2_with fail
    go_ret2
    exact ⟨by rw [HG.out]; rfl, B1⟩
  | true =>
    have hpl : p < m.length := by have := HIP.out rfl; simpa using this
    have HG : Hid (getT (rankOf xs) k m = ((m.getD p (0, 0)).2, true)) := Lib.hid (by unfold getT; rw [HPL.out]; rfl)
    clear HPL
    obtain ⟨b, off, rfl, g1, g2, g3, q0⟩ := HV.out.at_ (i := p) (by simpa using hpl)
    have eg : (m.map Prod.snd).getD p 0 = (m.getD p (0, 0)).2 := by
      rw [List.getD_eq_getElem?_getD, List.getElem?_map, List.getD_eq_getElem?_getD, List.getElem?_eq_getElem hpl]; rfl
    rw [eg] at q0
    rw [List.length_map] at g1
    clear eg
    generalize (m.getD p (0, 0)).2 = z at *
    go_wp2_with fail
    go_ret2
    exact ⟨by rw [HG.out]; rfl, B1⟩
/-- what a step of a script tells of a map. -/
def tellT (r : Int → Int) (a : ActD) (m : R) : ToldD :=
  if a.act = 2 then ⟨(getT r a.key m).1, (getT r a.key m).2, [], []⟩
  else if a.act = 3 then ⟨m.length, false, [], []⟩
  else if a.act = 4 then ⟨0, false, m.map Prod.fst, m.map Prod.snd⟩
  else .none
end Go.Proofs.Ytjbelfbfhcmgeaa.Kp
