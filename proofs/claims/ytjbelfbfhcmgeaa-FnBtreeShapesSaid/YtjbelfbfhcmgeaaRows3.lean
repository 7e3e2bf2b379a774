/- laws.shapeRows: the map behind a script. -/
import Derived.Test.YtjbelfbfhcmgeaaSpecT4
import Derived.Test.YtjbelfbfhcmgeaaActs
namespace Go.Proofs.Ytjbelfbfhcmgeaa.Kp
open Go.RowKit Om

theorem mapS_rises {r : Int → Int} {a : ActD} {m : R} (h : Rises r m) : Rises r (mapS r a m) := by
  unfold mapS
  split
  · exact putL_rises _ h
  · split
    · exact remL_rises h
    · exact h
theorem mapS_len {r : Int → Int} {a : ActD} {m : R} : (mapS r a m).length ≤ m.length + 1 := by
  unfold mapS
  split
  · exact putL_len _
  · split
    · exact Nat.le_trans (remL_len _) (by omega)
    · omega
theorem mapR_rises {r : Int → Int} : ∀ (l : List ActD) (m : R), Rises r m → Rises r (mapR r l m)
  | [], _, h => h
  | _ :: l, _, h => mapR_rises l _ (mapS_rises h)
theorem mapR_len {r : Int → Int} : ∀ (l : List ActD) (m : R), (mapR r l m).length ≤ m.length + l.length
  | [], _ => by simp [mapR]
  | a :: l, m => by
    have h1 := mapR_len (r := r) l (mapS r a m)
    have h2 := mapS_len (r := r) (a := a) (m := m)
    show (mapR r l (mapS r a m)).length ≤ _
    simp only [List.length_cons]; omega
theorem mapR_snoc {r : Int → Int} (l : List ActD) (a : ActD) (m : R) : mapR r (l ++ [a]) m = mapS r a (mapR r l m) := by unfold mapR; rw [List.foldl_append]; rfl
/-- a step, and that what it tells is of no account. -/
theorem step_any (xs : List Int) (tv : Value) (m : R) (kv vv : Value) (a : ActD) (w : World) (ht : SlR w w.heap.size tv (xs.map i64v)) (hm : TT w kv vv m) (hr : Rises (rankOf xs) m) (hn : m.length ≤ 10000000000) :
    Calls Try.prog 30 #[.agg #[kv, vv], tv, .agg #[.int .i64 a.act, .int .i64 a.key, .int .i64 a.val]] w fun e w' => ∃ K1 l1 c1 K2 c2 n b N1 n1 d1 N2 n2 d2,
      e = .returned (.tuple #[.agg #[.slice K1 l1 c1, .slice K2 l1 c2], .agg #[.int .i64 n, .bool b, .slice N1 n1 d1, .slice N2 n2 d2]]) ∧ TT w' (.slice K1 l1 c1) (.slice K2 l1 c2) (mapS (rankOf xs) a m) ∧ Below w.heap.size w w' := by
  refine (tstep_calls xs tv m kv vv a w ht hm hr hn).mono ?_
  rintro e w1 ⟨k1, v1, ka, va, rfl, t1, n1, n2, b1⟩
  obtain ⟨K1, kc1, K2, kc2, rfl, rfl⟩ := t1.forms
  obtain ⟨N1, nc1, rfl⟩ := n1.form
  obtain ⟨N2, nc2, rfl⟩ := n2.form
  exact ⟨_, _, _, _, _, _, _, _, _, _, _, _, _, rfl, t1, b1⟩
/-- at a round's head. -/
structure RInv (w : World) (k : Nat) (m : R) (v : Value) (wr : World) : Prop where
  box : ∃ kv vv, Blk wr w.heap.size #[kv, vv] 42 ∧ TT wr kv vv m
  res : Blk wr (w.heap.size + 1) #[.slice none 0 0, .slice none 0 0] 42
  own : ∃ cs, wr.ownsRow w.heap.size 50 4 v k cs
  bel : Below w.heap.size w wr
/-- behind a step. -/
structure RMid (w : World) (k : Nat) (m' : R) (v : Value) (q1 q2 : Nat) (wr : World) : Prop where
  box : ∃ kv vv, Blk wr w.heap.size #[kv, vv] 42
  res : Blk wr (w.heap.size + 1) #[.slice none 0 0, .slice none 0 0] 42
  own : ∃ cs, wr.ownsRow w.heap.size 50 4 v k cs
  bel : Below w.heap.size w wr
  next : ∃ kv vv, Blk wr q1 #[kv, vv] 42 ∧ TT wr kv vv m'
  told : ∃ n b ka va, Blk wr q2 #[.int .i64 n, .bool b, ka, va] 50 ∧ (∃ A1 n1 c1, ka = .slice A1 n1 c1) ∧ (∃ A1 n1 c1, va = .slice A1 n1 c1)
  ne : w.heap.size + 1 < q1
theorem blk_new1 (W : World) (o : Obj) (cs : Array Value) (T : TypeId) : Blk ((W.alloc o).alloc (.cells cs T)) (W.heap.size + 1) cs T := by
  have := Blk.new (W.alloc o) cs T
  rwa [show (W.alloc o).heap.size = W.heap.size + 1 by simp] at this
/-- what stays, where blocks of one's own alone are written. -/
theorem RMid.mk' {w wr wx : World} {k : Nat} {m m' : R} {v kv vv ka va : Value} {n : Int} {b : Bool} {p1 p2 : Nat} (h : RInv w k m v wr) (hX : Below wr.heap.size wr wx) (t : TT wx kv vv m') (Z1 : Blk wx p1 #[kv, vv] 42) (Z2 : Blk wx p2 #[.int .i64 n, .bool b, ka, va] 50)
    (hk : ∃ A1 n1 c1, ka = .slice A1 n1 c1) (hv : ∃ A1 n1 c1, va = .slice A1 n1 c1) (hn : w.heap.size + 1 < p1) : RMid w k m' v p1 p2 wx := by
  obtain ⟨k0, v0, hb, _⟩ := h.box
  obtain ⟨cs, ho⟩ := h.own
  exact ⟨⟨k0, v0, hb.below hX hb.lt⟩, h.res.below hX h.res.lt, ⟨cs, kd_below hX ho⟩, h.bel.trans (hX.mono h.bel.size), ⟨kv, vv, Z1, t⟩, ⟨n, b, ka, va, Z2, hk, hv⟩, hn⟩
section
variable {w wr w1 : World} {k : Nat} {m m' : R} {v : Value} {n : Int} {b : Bool} {K1 K2 N1 N2 : Option Addr} {l1 c1 c2 n1 n2 d1 d2 p q : Nat}
theorem TT.keep {w w' : World} {kv vv : Value} {m : R} (h : TT w kv vv m) (k : KeepI w w') : TT w' kv vv m := ⟨h.ks.keep k, h.vs.keep k⟩
theorem blk_newS (W : World) {n : Nat} (hn : W.heap.size = n) (cs : Array Value) (T : TypeId) : Blk (W.alloc (.cells cs T)) n cs T := by subst hn; exact Blk.new _ _ _
theorem rm_1 (h : RInv w k m v wr) (bw : Below wr.heap.size wr w1) (t1 : TT w1 (.slice K1 l1 c1) (.slice K2 l1 c2) m') :
    RMid w k m' v w1.heap.size (w1.heap.size + 1) ((w1.alloc (.cells #[.slice K1 l1 c1, .slice K2 l1 c2] 42)).alloc (.cells #[.int .i64 n, .bool b, .slice N1 n1 d1, .slice N2 n2 d2] 50)) := by
  have hr := h.res.lt
  have hs := bw.size
  have b2 : Below w1.heap.size w1 ((w1.alloc (.cells #[.slice K1 l1 c1, .slice K2 l1 c2] 42)).alloc (.cells #[.int .i64 n, .bool b, .slice N1 n1 d1, .slice N2 n2 d2] 50)) := ((Below.refl _ w1).alloc (Nat.le_refl _) _).alloc (by simp) _
  exact RMid.mk' h (bw.trans (b2.mono hs)) (t1.below b2) ((Blk.new _ _ _).alloc _) (blk_new1 _ _ _ _) ⟨_, _, _, rfl⟩ ⟨_, _, _, rfl⟩ (by omega)
theorem rm_2 (h : RInv w k m v wr) (bw : Below wr.heap.size wr w1) (t1 : TT w1 (.slice K1 l1 c1) (.slice K2 l1 c2) m') :
    RMid w k m' v (w1.heap.size + 1) w1.heap.size ((w1.alloc (.cells #[.int .i64 n, .bool b, .slice N1 n1 d1, .slice N2 n2 d2] 50)).alloc (.cells #[.slice K1 l1 c1, .slice K2 l1 c2] 42)) := by
  have hr := h.res.lt
  have hs := bw.size
  have b2 : Below w1.heap.size w1 ((w1.alloc (.cells #[.int .i64 n, .bool b, .slice N1 n1 d1, .slice N2 n2 d2] 50)).alloc (.cells #[.slice K1 l1 c1, .slice K2 l1 c2] 42)) := ((Below.refl _ w1).alloc (Nat.le_refl _) _).alloc (by simp) _
  exact RMid.mk' h (bw.trans (b2.mono hs)) (t1.below b2) (blk_new1 _ _ _ _) ((Blk.new _ _ _).alloc _) ⟨_, _, _, rfl⟩ ⟨_, _, _, rfl⟩ (by omega)
theorem rm_3 (h : RInv w k m v wr) (bw : Below wr.heap.size wr w1) (t1 : TT w1 (.slice K1 l1 c1) (.slice K2 l1 c2) m') (hp : wr.heap.size ≤ p) (Z1 : Blk w1 p #[.slice none 0 0, .slice none 0 0] 42) :
    RMid w k m' v p w1.heap.size (((w1.setCell ⟨p, 0, none⟩ (.slice K1 l1 c1)).setCell ⟨p, 1, none⟩ (.slice K2 l1 c2)).alloc (.cells #[.int .i64 n, .bool b, .slice N1 n1 d1, .slice N2 n2 d2] 50)) := by
  have hr := h.res.lt
  have hs := bw.size
  have b2 : Below wr.heap.size wr ((w1.setCell ⟨p, 0, none⟩ (.slice K1 l1 c1)).setCell ⟨p, 1, none⟩ (.slice K2 l1 c2)) := (bw.setCell hp _).setCell hp _
  have kp := (KeepI.set Z1 (by decide) (i := 0) (.slice K1 l1 c1)).trans (KeepI.set (Z1.set 0 (.slice K1 l1 c1)) (by decide) (i := 1) (.slice K2 l1 c2))
  exact RMid.mk' h (b2.alloc b2.size _) ((t1.keep kp).below ((Below.refl _ _).alloc (Nat.le_refl _) _)) (((Z1.set 0 _).set 1 _).alloc _) (blk_newS _ (by simp [World.setCell]) _ _) ⟨_, _, _, rfl⟩ ⟨_, _, _, rfl⟩ (by omega)
theorem rm_4 (h : RInv w k m v wr) (bw : Below wr.heap.size wr w1) (t1 : TT w1 (.slice K1 l1 c1) (.slice K2 l1 c2) m') (hp : wr.heap.size ≤ p) (hq : wr.heap.size ≤ q) (Z1 : Blk w1 p #[.slice none 0 0, .slice none 0 0] 42) (Z2 : Blk w1 q #[.int .i64 0, .bool false, .slice none 0 0, .slice none 0 0] 50) :
    RMid w k m' v p q ((((((w1.setCell ⟨p, 0, none⟩ (.slice K1 l1 c1)).setCell ⟨p, 1, none⟩ (.slice K2 l1 c2)).setCell ⟨q, 0, none⟩ (.int .i64 n)).setCell ⟨q, 1, none⟩ (.bool b)).setCell ⟨q, 2, none⟩ (.slice N1 n1 d1)).setCell ⟨q, 3, none⟩ (.slice N2 n2 d2)) := by
  have hr := h.res.lt
  have hne : p ≠ q := fun e => by
    subst e
    unfold Blk at Z1 Z2
    rw [Z1] at Z2
    simp at Z2
  have f := six_fr w1 p q (.slice K1 l1 c1) (.slice K2 l1 c2) (.int .i64 n) (.bool b) (.slice N1 n1 d1) (.slice N2 n2 d2)
  have kp := KeepI.fr f (fun x hx => by
    simp at hx
    rcases hx with rfl | rfl
    · exact ⟨_, _, Z1, by decide⟩
    · exact ⟨_, _, Z2, by decide⟩)
  have hb2 := bw.trans (f.below (fun x hx => by simp at hx; rcases hx with rfl | rfl <;> assumption) bw.size)
  have y1 := (((((Z1.set 0 (.slice K1 l1 c1)).set 1 (.slice K2 l1 c2)).far (i := 0) (v := .int .i64 n) hne).far (i := 1) (v := .bool b) hne).far (i := 2) (v := .slice N1 n1 d1) hne).far (i := 3) (v := .slice N2 n2 d2) hne
  have y2 := ((((((Z2.far (i := 0) (v := .slice K1 l1 c1) (Ne.symm hne)).far (i := 1) (v := .slice K2 l1 c2) (Ne.symm hne)).set 0 (.int .i64 n)).set 1 (.bool b)).set 2 (.slice N1 n1 d1)).set 3 (.slice N2 n2 d2))
  exact RMid.mk' (kv := .slice K1 l1 c1) (vv := .slice K2 l1 c2) (n := n) (b := b) (ka := .slice N1 n1 d1) (va := .slice N2 n2 d2) h hb2 (t1.keep kp) y1 y2 ⟨_, _, _, rfl⟩ ⟨_, _, _, rfl⟩ (by omega)
theorem rm_5 (h : RInv w k m v wr) (bw : Below wr.heap.size wr w1) (t1 : TT w1 (.slice K1 l1 c1) (.slice K2 l1 c2) m') (hq : wr.heap.size ≤ q) (Z2 : Blk w1 q #[.int .i64 0, .bool false, .slice none 0 0, .slice none 0 0] 50) :
    RMid w k m' v w1.heap.size q (((((w1.setCell ⟨q, 0, none⟩ (.int .i64 n)).setCell ⟨q, 1, none⟩ (.bool b)).setCell ⟨q, 2, none⟩ (.slice N1 n1 d1)).setCell ⟨q, 3, none⟩ (.slice N2 n2 d2)).alloc (.cells #[.slice K1 l1 c1, .slice K2 l1 c2] 42)) := by
  have hr := h.res.lt
  have hs := bw.size
  have b2 : Below wr.heap.size wr ((((w1.setCell ⟨q, 0, none⟩ (.int .i64 n)).setCell ⟨q, 1, none⟩ (.bool b)).setCell ⟨q, 2, none⟩ (.slice N1 n1 d1)).setCell ⟨q, 3, none⟩ (.slice N2 n2 d2)) := (((bw.setCell hq _).setCell hq _).setCell hq _).setCell hq _
  have f : Fr [q] w1 ((((w1.setCell ⟨q, 0, none⟩ (.int .i64 n)).setCell ⟨q, 1, none⟩ (.bool b)).setCell ⟨q, 2, none⟩ (.slice N1 n1 d1)).setCell ⟨q, 3, none⟩ (.slice N2 n2 d2)) := (((Fr.setCell w1 q 0 _ (by simp)).comp (Fr.setCell _ q 1 _ (by simp))).comp (Fr.setCell _ q 2 _ (by simp))).comp (Fr.setCell _ q 3 _ (by simp))
  have kp := KeepI.fr f (fun x hx => by rw [List.mem_singleton] at hx; subst hx; exact ⟨_, _, Z2, by decide⟩)
  exact RMid.mk' h (b2.alloc b2.size _) ((t1.keep kp).below ((Below.refl _ _).alloc (Nat.le_refl _) _)) (blk_newS _ (by simp [World.setCell]) _ _) (((((Z2.set 0 _).set 1 _).set 2 _).set 3 _).alloc _) ⟨_, _, _, rfl⟩ ⟨_, _, _, rfl⟩ (by omega)
end
theorem Try.infoTold' : (Try.prog.info? 50).map (fun i => (i.zero, i.size, i.bytes)) = some (some (.agg #[.int .i64 0, .bool false, .slice none 0 0, .slice none 0 0]), 4, 64) := by kernel_rfl
set_option maxRecDepth 100000 in
set_option maxHeartbeats 25600000 in
theorem shapeRows_calls (xs : List Int) (tv av : Value) (l : List ActD) (w : World) (ht : SlR w w.heap.size tv (xs.map i64v)) (ha : SlA w w.heap.size av l) (hl : l.length ≤ 5000000000) :
    Calls Try.prog 16 #[tv, .agg #[.slice none 0 0, .slice none 0 0], av] w fun e w' => ∃ kv vv ov, e = .returned (.tuple #[.agg #[kv, vv], ov]) ∧ TT w' kv vv (mapR (rankOf xs) l []) ∧ Below w.heap.size w w' := by
  obtain ⟨At, ct, rfl⟩ := ht.form
  rw [List.length_map] at *
  obtain ⟨Aa, ca, rfl⟩ := ha.form
  obtain ⟨i0, hi0, hz0, hz1, hz2⟩ := info_parts Try.infoTold'
  have h0 : RInv w 0 [] (.slice none 0 0) ((w.alloc (.cells #[.slice none 0 0, .slice none 0 0] 42)).alloc (.cells #[.slice none 0 0, .slice none 0 0] 42)) := by
    refine ⟨⟨_, _, (Blk.new _ _ _).alloc _, ⟨NS.nil _, NS.nil _⟩⟩, ?_, ⟨[], World.ownsRow_nil _ _ _ _⟩, ((Below.refl _ w).alloc (Nat.le_refl _) _).alloc (by simp) _⟩
    have := Blk.new (w.alloc (.cells #[.slice none 0 0, .slice none 0 0] 42)) #[.slice none 0 0, .slice none 0 0] 42
    rwa [show (w.alloc (.cells #[.slice none 0 0, .slice none 0 0] 42)).heap.size = w.heap.size + 1 by simp] at this
  have H0 := Lib.hid h0
  have HT := Lib.hid ht
  have HA := Lib.hid ha
  clear h0 ht ha
  go_enter Try.func16, Try.ntmps16
  go_wp2_with fail
  go_loopw [8, 9] (fun v i wr => ∃ k : Nat, k ≤ l.length ∧ i = .int .i64 (k : Nat) ∧ Hid (RInv w k (mapR (rankOf xs) (l.take k) []) v wr)) (fun _ i _ => l.length - (intOf i).toNat)
  case atStart => exact ⟨0, Nat.zero_le _, rfl, H0⟩
  case round =>
    obtain ⟨k, hk, rfl, HK⟩ := hrel
    by_cases hlt : k < l.length
    · obtain ⟨b, off, a, rfl, g1, g2, g3, ha5, z0, z1, z2⟩ := HA.out.at_ hlt
      have hbel := HK.out.bel
      have q0 := (hbel.cell (p := ⟨b, off + k * 3, none⟩) g2).trans z0
      have q1 := (hbel.cell (p := ⟨b, off + k * 3 + 1, none⟩) g2).trans z1
      have q2 := (hbel.cell (p := ⟨b, off + k * 3 + 2, none⟩) g2).trans z2
      obtain ⟨kv, vv, hbx, htt⟩ := HK.out.box
      obtain ⟨cs, ho⟩ := HK.out.own
      obtain ⟨A4, c4, rfl⟩ := kd_form ho
      have blt : b < wr.heap.size := Nat.lt_of_lt_of_le g3 hbel.size
      have wlt := hbx.lt
      have c0 := hbx.cell 0
      have c1 := hbx.cell 1
      have hml := mapR_len (r := rankOf xs) (l.take k) []
      rw [List.length_take, List.length_nil] at hml
      have hri := mapR_rises (r := rankOf xs) (l.take k) [] List.Pairwise.nil
      have hsn : mapR (rankOf xs) (l.take (k + 1)) [] = mapS (rankOf xs) a (mapR (rankOf xs) (l.take k) []) := by
        have hgg := (List.getElem?_eq_some_iff.1 ha5).2
        rw [List.take_succ_eq_append_getElem hlt, hgg, mapR_snoc]
      have HSN := Lib.hid hsn
      clear hsn z0 z1 z2 ha5
      generalize mapR (rankOf xs) (l.take k) [] = m at *
      obtain ⟨Ak, ck, Av, cv, rfl, rfl⟩ := htt.forms
      have HTT := Lib.hid (And.intro htt (And.intro hri hbx))
      have HO := Lib.hid ho
      have hsz := hbel.size
      have HST := Lib.hid (fun (w' : World) (hb : Below wr.heap.size wr w') => step_any xs (.slice At xs.length ct) m _ _ a w' ((HT.out.below (hbel.trans (hb.mono hsz))).mono (hbel.trans (hb.mono hsz)).size) (htt.below hb) hri (by omega) |>.mono (fun _ w'' ⟨K1, l1, c1, K2, c2, n, b, N1, n1, d1, N2, n2, d2, e, t1, b1⟩ => (⟨K1, l1, c1, K2, c2, n, b, N1, n1, d1, N2, n2, d2, e, t1, b1, hb.trans (b1.mono hb.size)⟩ : ∃ K1 l1 c1 K2 c2 n b N1 n1 d1 N2 n2 d2, _ = Ending.returned (.tuple #[.agg #[.slice K1 l1 c1, .slice K2 l1 c2], .agg #[.int .i64 n, .bool b, .slice N1 n1 d1, .slice N2 n2 d2]]) ∧ TT w'' (.slice K1 l1 c1) (.slice K2 l1 c2) (mapS (rankOf xs) a m) ∧ Below w'.heap.size w' w'' ∧ Below wr.heap.size wr w'')))
      clear htt hri hbx ho hml
      generalize mapS (rankOf xs) a m = m' at *
      obtain ⟨act, key, val⟩ := a
      simp only at q0 q1 q2 HST
      go_upto_region 5 with (fail)
      go_cut [10, 11] (fun s10 s11 wx => ∃ p1 p2, s10 = .pointer (some ⟨p1, 0, none⟩) ∧ s11 = .pointer (some ⟨p2, 0, none⟩) ∧ Hid (RMid w k m' (.slice A4 k c4) p1 p2 wx))
      case first =>
        go_region_with (first
          | (go_at_call 30; refine (HST.out _ (by first | exact Below.refl _ _ | exact (Below.refl _ _).drew | exact (Below.refl _ _).alloc (Nat.le_refl _) _ | exact ((Below.refl _ _).drew).alloc (Nat.le_refl _) _ | exact (((Below.refl _ _).drew).alloc (Nat.le_refl _) _).alloc (by show wr.heap.size ≤ (wr.drew.alloc _).heap.size; simp) _ | exact (((Below.refl _ _)).alloc (Nat.le_refl _) _).alloc (by simp) _)).mono ?_; rintro e w1 ⟨K1, l1, kc1, K2, kc2, tn, tb, N1, tn1, nc1, N2, tn2, nc2, rfl, t1, b1, bw⟩; first
            | (have Z1 : Blk w1 wr.heap.size #[.slice none 0 0, .slice none 0 0] 42 := Blk.below (by exact (Blk.new _ _ _).alloc _) b1 (by first | (simp; done) | (simp; omega))
               have Z2 : Blk w1 (wr.heap.size + 1) #[.int .i64 0, .bool false, .slice none 0 0, .slice none 0 0] 50 := Blk.below (by exact blk_new1 _ _ _ _) b1 (by first | (simp; done) | (simp; omega))
               have y0 := Z1.cell 0
               have yl := Z1.lt
               have y1 := Z1.cell 1
               have yf := Z1.frozen
               have x0 := Z2.cell 0
               have xl := Z2.lt
               have x1 := Z2.cell 1
               have x2 := Z2.cell 2
               have x3 := Z2.cell 3
               have xf := Z2.frozen)
            | (have Z1 : Blk w1 (wr.heap.size + 1) #[.slice none 0 0, .slice none 0 0] 42 := Blk.below (by exact blk_new1 _ _ _ _) b1 (by first | (simp; done) | (simp; omega))
               have Z2 : Blk w1 wr.heap.size #[.int .i64 0, .bool false, .slice none 0 0, .slice none 0 0] 50 := Blk.below (by exact (Blk.new _ _ _).alloc _) b1 (by first | (simp; done) | (simp; omega))
               have y0 := Z1.cell 0
               have yl := Z1.lt
               have y1 := Z1.cell 1
               have yf := Z1.frozen
               have x0 := Z2.cell 0
               have xl := Z2.lt
               have x1 := Z2.cell 1
               have x2 := Z2.cell 2
               have x3 := Z2.cell 3
               have xf := Z2.frozen)
            | (have Z1 : Blk w1 wr.heap.size #[.slice none 0 0, .slice none 0 0] 42 := Blk.below (by exact Blk.new _ _ _) b1 (by first | (simp; done) | (simp; omega))
               have y0 := Z1.cell 0
               have yl := Z1.lt
               have y1 := Z1.cell 1
               have yf := Z1.frozen)
            | (have Z2 : Blk w1 wr.heap.size #[.int .i64 0, .bool false, .slice none 0 0, .slice none 0 0] 50 := Blk.below (by exact Blk.new _ _ _) b1 (by first | (simp; done) | (simp; omega))
               have x0 := Z2.cell 0
               have xl := Z2.lt
               have x1 := Z2.cell 1
               have x2 := Z2.cell 2
               have x3 := Z2.cell 3
               have xf := Z2.frozen)
            | skip))
        all_goals
          go_wp2_with fail
          go_meet
          refine ⟨_, _, rfl, rfl, Lib.hid ?_⟩
          first
            | with_reducible exact rm_1 HK.out bw t1
            | with_reducible exact rm_2 HK.out bw t1
            | with_reducible exact rm_4 HK.out bw t1 (Nat.le_refl _) (Nat.le_succ _) Z1 Z2
            | with_reducible exact rm_4 HK.out bw t1 (Nat.le_succ _) (Nat.le_refl _) Z1 Z2
            | with_reducible exact rm_3 HK.out bw t1 (Nat.le_refl _) Z1
            | with_reducible exact rm_5 HK.out bw t1 (Nat.le_refl _) Z2
      case rest =>
      obtain ⟨p1, p2, rfl, rfl, HM⟩ := hcut
      obtain ⟨kb, vb, hbx⟩ := HM.out.box
      obtain ⟨kn, vn, hnx, htn⟩ := HM.out.next
      obtain ⟨tn, tb, ka, va, htd, ⟨A1, n1, c1, rfl⟩, ⟨A2, n2, c2, rfl⟩⟩ := HM.out.told
      obtain ⟨cs, ho⟩ := HM.out.own
      obtain ⟨Kn, ckn, Vn, cvn, rfl, rfl⟩ := htn.forms
      have hne := HM.out.ne
      have b0 := hbx.cell 0
      have b1 := hbx.cell 1
      have bf := hbx.frozen
      have m0 := hnx.cell 0
      have m1 := hnx.cell 1
      have t0 := htd.cell 0
      have t1 := htd.cell 1
      have t2 := htd.cell 2
      have t3 := htd.cell 3
      have x1 : ¬ p1 = w.heap.size := by omega
      have x2 : ¬ w.heap.size = p1 := by omega
      have x3 : ¬ p2 = w.heap.size := fun e => by
        subst e
        unfold Blk at hbx htd
        rw [hbx] at htd
        simp at htd
      have x4 : ¬ w.heap.size = p2 := fun e => x3 e.symm
      have hbl := HM.out.bel
      have HB := Lib.hid (And.intro hbx (And.intro htn ho))
      clear hbx hnx htn ho HO HTT
      have O2 := Lib.hid (kd_set (i := 1) (u := .slice Vn (List.length m') cvn) (HB.out.1.set 0 (.slice Kn (List.length m') ckn)) (kd_set (i := 0) (u := .slice Kn (List.length m') ckn) HB.out.1 HB.out.2.2 (by decide)) (by decide))
      have B2 : Below w.heap.size w ((wc.setCell ⟨w.heap.size, 0, none⟩ (.slice Kn (List.length m') ckn)).setCell ⟨w.heap.size, 1, none⟩ (.slice Vn (List.length m') cvn)) := (hbl.setCell (Nat.le_refl _) _).setCell (Nat.le_refl _) _
      have KP : KeepI wc ((wc.setCell ⟨w.heap.size, 0, none⟩ (.slice Kn (List.length m') ckn)).setCell ⟨w.heap.size, 1, none⟩ (.slice Vn (List.length m') cvn)) := (KeepI.set HB.out.1 (by decide) _).trans (KeepI.set (HB.out.1.set 0 _) (by decide) _)
      have BX : Blk ((wc.setCell ⟨w.heap.size, 0, none⟩ (.slice Kn (List.length m') ckn)).setCell ⟨w.heap.size, 1, none⟩ (.slice Vn (List.length m') cvn)) w.heap.size #[.slice Kn (List.length m') ckn, .slice Vn (List.length m') cvn] 42 := (HB.out.1.set 0 _).set 1 _
      have RS : Blk ((wc.setCell ⟨w.heap.size, 0, none⟩ (.slice Kn (List.length m') ckn)).setCell ⟨w.heap.size, 1, none⟩ (.slice Vn (List.length m') cvn)) (w.heap.size + 1) #[.slice none 0 0, .slice none 0 0] 42 := (HM.out.res.far (by omega)).far (by omega)
      have hsz2 := B2.size
      go_upto_region 7 with (fail)
      have TD : Blk ((wc.setCell ⟨w.heap.size, 0, none⟩ (.slice Kn (List.length m') ckn)).setCell ⟨w.heap.size, 1, none⟩ (.slice Vn (List.length m') cvn)) p2 #[.int .i64 tn, .bool tb, .slice A1 n1 c1, .slice A2 n2 c2] 50 := (htd.far x3).far x3
      have HW := Lib.hid (And.intro (⟨HB.out.2.1.ks.keep KP, HB.out.2.1.vs.keep KP⟩ : TT _ _ _ m') (And.intro BX (And.intro RS B2)))
      clear KP BX RS B2 htd t0 t1 t2 t3 HB HM b0 b1 bf m0 m1
      generalize (wc.setCell ⟨w.heap.size, 0, none⟩ (.slice Kn (List.length m') ckn)).setCell ⟨w.heap.size, 1, none⟩ (.slice Vn (List.length m') cvn) = W2 at *
      have t0 := TD.cell 0
      have t1 := TD.cell 1
      have t2 := TD.cell 2
      have t3 := TD.cell 3
      have tl := TD.lt
      clear TD HST HK
      go_wp2_with (at_builtin; go_loud (refine wpList_append_own _ rfl (.tmp 29) (.tmp 31) 25 rfl w.heap.size 50 i0 _ 4 64 Try.underlying25 hi0 hz0 hz1 hz2 rfl (by omega) _ k cs rfl (O2.out.alloc _) ⟨W2.heap.size, 0, none⟩ 1 1 [.int .i64 tn, .bool tb, .slice A1 n1 c1, .slice A2 n2 c2] rfl rfl (kd_news (Blk.new W2 _ _)) (by simp [Value.oneCell']) (by unfold maxLen; omega) (by omega) (by simp; omega) ?_; intro v' w3 hown' hgrow _))
      refine ⟨⟨k + 1, by omega, by go_num, Lib.hid ?_⟩, by simp [intOf]; omega⟩
      rw [HSN.out]
      have kg : ∀ (T : TypeId) (b : Nat) (cs : Array Value), Blk W2 b cs T → T ≠ 50 → Blk w3 b cs T := fun T b cs hb hT => kd_grown (hb.alloc _) (O2.out.alloc _) hgrow hT
      exact ⟨⟨_, _, kg _ _ _ HW.out.2.1 (by decide), HW.out.1.keep (fun b cs hb => kg _ _ _ hb (by decide))⟩, kg _ _ _ HW.out.2.2.1 (by decide), ⟨_, hown'⟩, (HW.out.2.2.2.alloc hsz2 _).grown hgrow (by simp; omega) (fun g hg => (O2.out.lt g hg).1)⟩
    · have : k = l.length := by omega
      subst this
      have h := HK.out
      rw [List.take_length] at h
      obtain ⟨kv, vv, hbx, htt⟩ := h.box
      obtain ⟨cs, ho⟩ := h.own
      obtain ⟨A4, c4, rfl⟩ := kd_form ho
      have hrs := h.res
      have hbl := h.bel
      generalize hmm : mapR (rankOf xs) l [] = m at *
      have HMM := Lib.hid hmm
      clear hmm
      obtain ⟨Ak, ck, Av, cv, rfl, rfl⟩ := htt.forms
      have b0 := hbx.cell 0
      have b1 := hbx.cell 1
      have r0 := hrs.cell 0
      have r1 := hrs.cell 1
      have rf := hrs.frozen
      have hbxl := hbx.lt
      have HB := Lib.hid (And.intro htt (And.intro hrs hbl))
      clear htt h HK hbx hrs ho hbl
      go_wp2_with fail
      have KP : KeepI wr ((wr.setCell ⟨w.heap.size + 1, 0, none⟩ (.slice Ak (List.length m) ck)).setCell ⟨w.heap.size + 1, 1, none⟩ (.slice Av (List.length m) cv)) := (KeepI.set HB.out.2.1 (by decide) _).trans (KeepI.set (HB.out.2.1.set 0 _) (by decide) _)
      refine bodyPost_ret (v := .tuple #[.agg #[.slice Ak (List.length m) ck, .slice Av (List.length m) cv], .slice A4 l.length c4]) (by simp [results, Try.results16, go_sem, r0, r1]) rfl ⟨_, _, _, rfl, ?_, ?_⟩
      · rw [HMM.out]; exact HB.out.1.keep KP
      · exact (HB.out.2.2.setCell (Nat.le_succ _) _).setCell (Nat.le_succ _) _
end Go.Proofs.Ytjbelfbfhcmgeaa.Kp
