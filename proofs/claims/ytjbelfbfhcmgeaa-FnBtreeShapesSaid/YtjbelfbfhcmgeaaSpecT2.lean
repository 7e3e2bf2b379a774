/- spec.Tree: Put, Remove, Get, Step. -/
import Derived.Test.YtjbelfbfhcmgeaaSpecT1
import Derived.Deep.RegionWith
import Derived.StillTailTactics
import Derived.Deep.DrawnRows
namespace Go.Proofs.Ytjbelfbfhcmgeaa.Kp
open Go.RowKit Om

theorem TT.forms {w : World} {kv vv : Value} {m : R} (h : TT w kv vv m) : ∃ Ak ck Av cv, kv = .slice Ak m.length ck ∧ vv = .slice Av m.length cv := by
  obtain ⟨Ak, ck, e1⟩ := h.ks.form
  obtain ⟨Av, cv, e2⟩ := h.vs.form
  rw [List.length_map] at e1 e2
  exact ⟨Ak, ck, Av, cv, e1, e2⟩
theorem TT.drewN {w : World} {kv vv : Value} {m : R} (h : TT w kv vv m) (n : Nat) : TT (w.drewN n) kv vv m := h.below (Below.drewN w n)
/-- a call that gives back a map. -/
def TPost (w : World) (m : R) (e : Ending) (w' : World) : Prop := ∃ kv vv, e = .returned (.agg #[kv, vv]) ∧ TT w' kv vv m ∧ Below w.heap.size w w'
theorem isT_lt {r : Int → Int} {k : Int} {ks : List Int} (h : isT r k ks = true) : posT r k ks < ks.length := by
  unfold isT at h
  exact of_decide_eq_true ((Bool.and_eq_true _ _).mp h).1
theorem take_in (m : R) (p : Nat) (v : Int) (h : p < m.length) : ((m.map Prod.snd).take p ++ (m.map Prod.snd).drop (p + 1)).take p ++ [v] ++ ((m.map Prod.snd).take p ++ (m.map Prod.snd).drop (p + 1)).drop p = (m.take p ++ [((m.getD p (0, 0)).1, v)] ++ m.drop (p + 1)).map Prod.snd := by
  have e : ((m.map Prod.snd).take p).length = p := by rw [List.length_take, List.length_map]; omega
  rw [List.take_left' e, List.drop_left' e]
  simp
theorem keys_in (m : R) (p : Nat) (v : Int) (h : p < m.length) : m.map Prod.fst = (m.take p ++ [((m.getD p (0, 0)).1, v)] ++ m.drop (p + 1)).map Prod.fst := by
  have e : m = m.take p ++ [m[p]] ++ m.drop (p + 1) := by
    conv => lhs; rw [← List.take_append_drop p m, List.drop_eq_getElem_cons h]
    simp
  rw [List.getD_eq_getElem?_getD, List.getElem?_eq_getElem h, List.map_append, List.map_append]
  conv => lhs; rw [e, List.map_append, List.map_append]
  rfl
/-- the answer, stored in a block of its own. -/
theorem TT.put {w w3 : World} {kv vv : Value} {b : Nat} {cs : Array Value} {m2 : R} (hb : Blk w3 b cs 42) (hle : w.heap.size ≤ b) (B3 : Below w.heap.size w w3) (hk : NS w3 kv (m2.map Prod.fst)) (hv : NS w3 vv (m2.map Prod.snd)) (i j : Nat) (x y : Value) :
    TT ((w3.setCell ⟨b, i, none⟩ x).setCell ⟨b, j, none⟩ y) kv vv m2 ∧ Below w.heap.size w ((w3.setCell ⟨b, i, none⟩ x).setCell ⟨b, j, none⟩ y) := by
  have k : KeepI w3 ((w3.setCell ⟨b, i, none⟩ x).setCell ⟨b, j, none⟩ y) := (KeepI.set hb (by decide) x).trans (KeepI.set (hb.set i x) (by decide) y)
  exact ⟨⟨hk.keep k, hv.keep k⟩, (B3.setCell hle _).setCell hle _⟩
set_option maxRecDepth 100000 in
set_option maxHeartbeats 1600000 in
theorem tput_calls (xs : List Int) (tv : Value) (m : R) (kv vv : Value) (k v : Int) (w : World) (ht : SlR w w.heap.size tv (xs.map i64v)) (hm : TT w kv vv m) (hn : m.length ≤ 10000000000) :
    Calls Try.prog 44 #[.agg #[kv, vv], tv, .int .i64 k, .int .i64 v] w (TPost w (putL (rankOf xs) k v m)) := by
  obtain ⟨At, ct, rfl⟩ := ht.form
  rw [List.length_map] at *
  have hp := posT_le (rankOf xs) k (m.map Prod.fst)
  rw [List.length_map] at hp
  have HPL := Lib.hid (putL_pos (rankOf xs) k v m)
  have HIP := Lib.hid (fun h => isT_lt (r := rankOf xs) (k := k) (ks := m.map Prod.fst) h)
  obtain ⟨Ak, ck, Av, cv, rfl, rfl⟩ := hm.forms
  have b0 : Below w.heap.size w ((w.alloc (.cells #[.slice Ak m.length ck, .slice Av m.length cv] 42)).alloc (.cells #[.slice none 0 0, .slice none 0 0] 42)) := ((Below.refl _ w).alloc (Nat.le_refl _) _).alloc (by simp) _
  have hb0 : Blk ((w.alloc (.cells #[.slice Ak m.length ck, .slice Av m.length cv] 42)).alloc (.cells #[.slice none 0 0, .slice none 0 0] 42)) w.heap.size #[.slice Ak m.length ck, .slice Av m.length cv] 42 := (Blk.new _ _ _).alloc _
  have hb1 : Blk ((w.alloc (.cells #[.slice Ak m.length ck, .slice Av m.length cv] 42)).alloc (.cells #[.slice none 0 0, .slice none 0 0] 42)) (w.heap.size + 1) #[.slice none 0 0, .slice none 0 0] 42 := by
    have := Blk.new (w.alloc (.cells #[.slice Ak m.length ck, .slice Av m.length cv] 42)) #[.slice none 0 0, .slice none 0 0] 42
    rwa [show (w.alloc (.cells #[.slice Ak m.length ck, .slice Av m.length cv] 42)).heap.size = w.heap.size + 1 by simp] at this
  have HM := Lib.hid hm
  have HT := Lib.hid ht
  clear ht hm
  go_enter Try.func44, Try.ntmps44
  go_wp2_with fail
  generalize ((w.alloc (.cells #[.slice Ak m.length ck, .slice Av m.length cv] 42)).alloc (.cells #[.slice none 0 0, .slice none 0 0] 42)) = W at *
  have hF := find_calls xs _ (m.map Prod.fst) (.slice Ak m.length ck) (.slice Av m.length cv) ⟨_, _, _, rfl⟩ k W ((HT.out.below b0).mono b0.size) ((HM.out.below b0).ks) (by simp; omega)
  generalize posT (rankOf xs) k (m.map Prod.fst) = p at *
  generalize isT (rankOf xs) k (m.map Prod.fst) = is at *
  refine hF.mono ?_
  rintro e w1 ⟨rfl, b1⟩
  have B1 := b0.trans (b1.mono b0.size)
  have hb0' := hb0.below b1 hb0.lt
  have hb1' := hb1.below b1 hb1.lt
  have B01 := b0.size
  clear hF
  have c0 := hb0'.cell 0
  have c1 := hb0'.cell 1
  have d0 := hb1'.cell 0
  have d1 := hb1'.cell 1
  have df := hb1'.frozen
  have HV := Lib.hid (fun (w' : World) (hb : Below w.heap.size w w') => (HM.out.below hb).vs)
  have HKS := Lib.hid (fun (w' : World) (hb : Below w.heap.size w w') => (HM.out.below hb).ks)
  have hbox := Lib.hid (And.intro hb0' hb1')
  clear hb0 hb1 b1 hb0' hb1'
  cases is with
  | true =>
    have hpl : p < m.length := by have := HIP.out rfl; simpa using this
    have HC := Lib.hid (fun (w' : World) (hb : Below w.heap.size w w') => cut_calls (m.map Prod.snd) _ p w' (HV.out w' hb) (by simpa using hpl) (by simp; omega))
    have HP := Lib.hid (fun (w' : World) v2 (hb : NS w' v2 _) => put_calls ((m.map Prod.snd).take p ++ (m.map Prod.snd).drop (p + 1)) v2 p v w' hb (by simp; omega) (by simp; omega))
    rw [take_in m p v hpl] at HP
    have HPL2 : Hid (putL (rankOf xs) k v m = m.take p ++ [((m.getD p (0, 0)).1, v)] ++ m.drop (p + 1)) := Lib.hid (by rw [HPL.out]; rfl)
    have HK2 := Lib.hid (keys_in m p v hpl)
    clear HPL
    generalize (m.map Prod.snd).take p ++ (m.map Prod.snd).drop (p + 1) = L2 at *
    generalize m.take p ++ [((m.getD p (0, 0)).1, v)] ++ m.drop (p + 1) = m2 at *
    go_wp2_with fail
    go_region_with (first
      | (go_at_call 62; refine (HC.out _ (by first | exact B1 | exact B1.drew)).mono ?_; rintro e w2 ⟨v2, rfl, o2, b2⟩
         replace b2 : Below w1.heap.size w1 w2 := ⟨b2.os, b2.tape, b2.output, b2.size, b2.block⟩
         have B2 : Below w.heap.size w w2 := B1.trans (b2.mono B1.size)
         have h0 : Blk w2 w.heap.size #[.slice Ak m.length ck, .slice Av m.length cv] 42 := hbox.out.1.below b2 hbox.out.1.lt
         have h1 : Blk w2 (w.heap.size + 1) #[.slice none 0 0, .slice none 0 0] 42 := hbox.out.2.below b2 hbox.out.2.lt
         have e0 := h0.cell 0)
      | (go_at_call 61; refine (HP.out _ _ (by first | exact own_NS rfl o2 | exact own_NS rfl o2.drew)).mono ?_; rintro e w3 ⟨v3, rfl, o3, b3⟩
         replace b3 : Below w2.heap.size w2 w3 := ⟨b3.os, b3.tape, b3.output, b3.size, b3.block⟩
         have B3 : Below w.heap.size w w3 := B2.trans (b3.mono B2.size)
         have g0 : Blk w3 w.heap.size #[.slice Ak m.length ck, .slice Av m.length cv] 42 := h0.below b3 h0.lt
         have g1 : Blk w3 (w.heap.size + 1) #[.slice none 0 0, .slice none 0 0] 42 := h1.below b3 h1.lt
         have k0 := g0.cell 0
         have l0 := g1.cell 0
         have l1 := g1.cell 1
         have lf := g1.frozen
         have hN3 : NS w3 v3 (m2.map Prod.snd) := own_NS rfl o3
         obtain ⟨A3, c3, rfl⟩ := kd_form o3
         have HF := Lib.hid (TT.put (w := w) (m2 := m2) g1 (Nat.le_succ _) B3 (by rw [← HK2.out]; exact HKS.out w3 B3) hN3 0 1 (.slice Ak m.length ck) (.slice A3 (m2.map Prod.snd).length c3))
         simp only [List.length_map] at HF))
    all_goals
      go_wp2_with fail
      refine bodyPost_ret (v := .agg #[.slice Ak m.length ck, .slice A3 m2.length c3]) (by simp [results, Try.results44, go_sem, l0, l1]) rfl ⟨_, _, rfl, ?_, ?_⟩
      · rw [HPL2.out]
        first | exact HF.out.1 | exact (HF.out.1.drewN 1 : TT (World.drewN _ 1) _ _ _)
      · first | exact HF.out.2 | exact HF.out.2.drew
  | false =>
    have e1 : (m.map Prod.fst).take p ++ [k] ++ (m.map Prod.fst).drop p = (m.take p ++ [(k, v)] ++ m.drop p).map Prod.fst := by simp
    have e2 : (m.map Prod.snd).take p ++ [v] ++ (m.map Prod.snd).drop p = (m.take p ++ [(k, v)] ++ m.drop p).map Prod.snd := by simp
    have HC := Lib.hid (fun (w' : World) (hb : Below w.heap.size w w') => put_calls (m.map Prod.fst) _ p k w' (HKS.out w' hb) (by simpa using hp) (by simp; omega))
    have HP := Lib.hid (fun (w' : World) (hb : Below w.heap.size w w') => put_calls (m.map Prod.snd) _ p v w' (HV.out w' hb) (by simpa using hp) (by simp; omega))
    rw [e1] at HC
    rw [e2] at HP
    have HPL2 : Hid (putL (rankOf xs) k v m = m.take p ++ [(k, v)] ++ m.drop p) := Lib.hid (by rw [HPL.out]; rfl)
    clear HPL e1 e2
    generalize m.take p ++ [(k, v)] ++ m.drop p = m2 at *
    go_wp2_with fail
    go_region_with (first
      | (go_at_call_of 61 (Ak); refine (HC.out _ (by first | exact B1 | exact B1.drew)).mono ?_; rintro e w2 ⟨v2, rfl, o2, b2⟩
         replace b2 : Below w1.heap.size w1 w2 := ⟨b2.os, b2.tape, b2.output, b2.size, b2.block⟩
         have B2 : Below w.heap.size w w2 := B1.trans (b2.mono B1.size)
         have h0 : Blk w2 w.heap.size #[.slice Ak m.length ck, .slice Av m.length cv] 42 := hbox.out.1.below b2 hbox.out.1.lt
         have h1 : Blk w2 (w.heap.size + 1) #[.slice none 0 0, .slice none 0 0] 42 := hbox.out.2.below b2 hbox.out.2.lt
         have e0 := h0.cell 0
         have e1 := h0.cell 1
         obtain ⟨A2, c2, rfl⟩ := kd_form o2)
      | (go_at_call_of 61 (Av); refine (HP.out _ (by first | exact B2 | exact B2.drew)).mono ?_; rintro e w3 ⟨v3, rfl, o3, b3⟩
         replace b3 : Below w2.heap.size w2 w3 := ⟨b3.os, b3.tape, b3.output, b3.size, b3.block⟩
         have B3 : Below w.heap.size w w3 := B2.trans (b3.mono B2.size)
         have g1 : Blk w3 (w.heap.size + 1) #[.slice none 0 0, .slice none 0 0] 42 := h1.below b3 h1.lt
         have l0 := g1.cell 0
         have l1 := g1.cell 1
         have lf := g1.frozen
         have o2' := kd_below b3 o2
         have hN3 : NS w3 v3 (m2.map Prod.snd) := own_NS rfl o3
         obtain ⟨A3, c3, rfl⟩ := kd_form o3
         have HF := Lib.hid (TT.put (w := w) (m2 := m2) g1 (Nat.le_succ _) B3 (own_NS rfl o2') hN3 0 1 (.slice A2 (m2.map Prod.fst).length c2) (.slice A3 (m2.map Prod.snd).length c3))
         simp only [List.length_map] at HF))
    all_goals
      go_wp2_with fail
      refine bodyPost_ret (v := .agg #[.slice A2 m2.length c2, .slice A3 m2.length c3]) (by simp [results, Try.results44, go_sem, l0, l1]) rfl ⟨_, _, rfl, ?_, ?_⟩
      · rw [HPL2.out]
        first | exact HF.out.1 | exact (HF.out.1.drewN 1 : TT (World.drewN _ 1) _ _ _)
      · first | exact HF.out.2 | exact HF.out.2.drew
end Go.Proofs.Ytjbelfbfhcmgeaa.Kp
