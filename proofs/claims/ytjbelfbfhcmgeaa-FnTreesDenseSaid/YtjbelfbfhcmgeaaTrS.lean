/- spec.Trees: what the steps of a script on a map tell. -/
import Derived.Test.YtjbelfbfhcmgeaaSpecT4
import Derived.Test.YtjbelfbfhcmgeaaActs
import Derived.Test.YtjbelfbfhcmgeaaBtR
namespace Go.Proofs.Ytjbelfbfhcmgeaa.Kp
open Go.RowKit Om

theorem mapT_rises {r : Int → Int} {a : ActD} {m : R} (h : Rises r m) : Rises r (mapS r a m) := by
  unfold mapS
  split
  · exact putL_rises _ h
  · split
    · exact remL_rises h
    · exact h
theorem mapT_len {r : Int → Int} {a : ActD} {m : R} : (mapS r a m).length ≤ m.length + 1 := by
  unfold mapS
  split
  · exact putL_len _
  · split
    · exact Nat.le_trans (remL_len _) (by omega)
    · omega
theorem mapU_rises {r : Int → Int} : ∀ (l : List ActD) (m : R), Rises r m → Rises r (mapR r l m)
  | [], _, h => h
  | _ :: l, _, h => mapU_rises l _ (mapT_rises h)
theorem mapU_len {r : Int → Int} : ∀ (l : List ActD) (m : R), (mapR r l m).length ≤ m.length + l.length
  | [], _ => by simp [mapR]
  | a :: l, m => by
    have h1 := mapU_len (r := r) l (mapS r a m)
    have h2 := mapT_len (r := r) (a := a) (m := m)
    show (mapR r l (mapS r a m)).length ≤ _
    simp only [List.length_cons]; omega
theorem mapU_snoc {r : Int → Int} (l : List ActD) (a : ActD) (m : R) : mapR r (l ++ [a]) m = mapS r a (mapR r l m) := by unfold mapR; rw [List.foldl_append]; rfl
/-- the told rows, as they lie. -/
def TS (w : World) : List ToldD → List Value → Prop
  | [], cs => cs = []
  | d :: ds, cs => ∃ ka va rest, cs = .int .i64 d.val :: .bool d.ok :: ka :: va :: rest ∧ NS w ka d.keys ∧ NS w va d.vals ∧ TS w ds rest
theorem TS.keep {w w' : World} (h : KeepI w w') : ∀ {ds : List ToldD} {cs : List Value}, TS w ds cs → TS w' ds cs
  | [], _, ht => ht
  | _ :: _, _, ⟨ka, va, rest, e, h1, h2, h3⟩ => ⟨ka, va, rest, e, h1.keep h, h2.keep h, h3.keep h⟩
theorem TS.snoc {w : World} {d : ToldD} {ka va : Value} (h1 : NS w ka d.keys) (h2 : NS w va d.vals) : ∀ {ds : List ToldD} {cs : List Value}, TS w ds cs → TS w (ds ++ [d]) (cs ++ [.int .i64 d.val, .bool d.ok, ka, va])
  | [], _, h => by rw [h]; exact ⟨ka, va, [], rfl, h1, h2, rfl⟩
  | _ :: _, _, ⟨ka', va', rest, e1, g1, g2, h3⟩ => by rw [e1]; exact ⟨ka', va', _, rfl, g1, g2, TS.snoc h1 h2 h3⟩
theorem TS.at_ {w : World} : ∀ {ds : List ToldD} {cs : List Value} {i : Nat} {d : ToldD}, TS w ds cs → ds[i]? = some d → ∃ ka va, cs[i * 4]? = some (.int .i64 d.val) ∧ cs[i * 4 + 1]? = some (.bool d.ok) ∧ cs[i * 4 + 2]? = some ka ∧ cs[i * 4 + 3]? = some va ∧ NS w ka d.keys ∧ NS w va d.vals
  | [], _, _, _, _, h => by simp at h
  | _ :: _, cs, 0, d, ⟨ka, va, rest, e, h1, h2, _⟩, h => by simp at h; subst h; rw [e]; exact ⟨ka, va, rfl, rfl, rfl, rfl, h1, h2⟩
  | _ :: ds, cs, i + 1, d, ⟨ka, va, rest, e, _, _, h3⟩, h => by
    have := TS.at_ h3 (by simpa using h)
    rw [e, show (i + 1) * 4 = i * 4 + 1 + 1 + 1 + 1 by omega]
    exact this
theorem runM_snoc (r : Int → Int) (a : ActD) : ∀ (l : List ActD) (m : R), runM r m (l ++ [a]) = runM r m l ++ [tellT r a (mapR r l m)]
  | [], _ => rfl
  | b :: l, m => by
    show _ :: runM r (mapS r b m) (l ++ [a]) = _
    rw [runM_snoc r a l]; rfl
/-- a map, and what a step told. -/
structure T2 (w : World) (kv vv : Value) (m : R) (ka va : Value) (d : ToldD) : Prop where
  t : TT w kv vv m
  ks : NS w ka d.keys
  vs : NS w va d.vals
theorem T2.keep {w w' : World} {kv vv : Value} {m : R} {ka va : Value} {d : ToldD} (h : T2 w kv vv m ka va d) (k : KeepI w w') : T2 w' kv vv m ka va d := ⟨⟨h.t.ks.keep k, h.t.vs.keep k⟩, h.ks.keep k, h.vs.keep k⟩
theorem T2.below {w w' : World} {kv vv : Value} {m : R} {ka va : Value} {d : ToldD} (h : T2 w kv vv m ka va d) (hb : Below w.heap.size w w') : T2 w' kv vv m ka va d := h.keep (KeepI.below hb)
theorem step_all (xs : List Int) (tv : Value) (m : R) (kv vv : Value) (a : ActD) (w : World) (ht : SlR w w.heap.size tv (xs.map i64v)) (hm : TT w kv vv m) (hr : Rises (rankOf xs) m) (hn : m.length ≤ 10000000000) :
    Calls Try.prog 30 #[.agg #[kv, vv], tv, .agg #[.int .i64 a.act, .int .i64 a.key, .int .i64 a.val]] w fun e w' => ∃ K1 l1 c1 K2 c2 N1 n1 d1 N2 n2 d2,
      e = .returned (.tuple #[.agg #[.slice K1 l1 c1, .slice K2 l1 c2], .agg #[.int .i64 (tellT (rankOf xs) a m).val, .bool (tellT (rankOf xs) a m).ok, .slice N1 n1 d1, .slice N2 n2 d2]]) ∧ T2 w' (.slice K1 l1 c1) (.slice K2 l1 c2) (mapS (rankOf xs) a m) (.slice N1 n1 d1) (.slice N2 n2 d2) (tellT (rankOf xs) a m) ∧ Below w.heap.size w w' := by
  refine (tstep_calls xs tv m kv vv a w ht hm hr hn).mono ?_
  rintro e w1 ⟨k1, v1, ka, va, rfl, t1, n1, n2, b1⟩
  obtain ⟨K1, kc1, K2, kc2, rfl, rfl⟩ := t1.forms
  obtain ⟨N1, nc1, rfl⟩ := n1.form
  obtain ⟨N2, nc2, rfl⟩ := n2.form
  exact ⟨_, _, _, _, _, _, _, _, _, _, _, rfl, ⟨t1, n1, n2⟩, b1⟩
/-- at a round's head. -/
structure SInv (w : World) (k : Nat) (m : R) (ds : List ToldD) (v : Value) (wr : World) : Prop where
  box : ∃ kv vv, Blk wr w.heap.size #[kv, vv] 42 ∧ TT wr kv vv m
  own : ∃ cs, wr.ownsRow w.heap.size 50 4 v k cs ∧ TS wr ds cs
  bel : Below w.heap.size w wr
/-- behind a step. -/
structure SMid (w : World) (k : Nat) (m' : R) (ds : List ToldD) (d : ToldD) (v : Value) (q1 q2 : Nat) (wr : World) : Prop where
  box : ∃ kv vv, Blk wr w.heap.size #[kv, vv] 42
  own : ∃ cs, wr.ownsRow w.heap.size 50 4 v k cs ∧ TS wr ds cs
  bel : Below w.heap.size w wr
  next : ∃ kv vv ka va, Blk wr q1 #[kv, vv] 42 ∧ Blk wr q2 #[.int .i64 d.val, .bool d.ok, ka, va] 50 ∧ T2 wr kv vv m' ka va d
  ne : w.heap.size < q1
theorem blk_new1' (W : World) (o : Obj) (cs : Array Value) (T : TypeId) : Blk ((W.alloc o).alloc (.cells cs T)) (W.heap.size + 1) cs T := by
  have := Blk.new (W.alloc o) cs T
  rwa [show (W.alloc o).heap.size = W.heap.size + 1 by simp] at this
/-- what stays, where blocks of one's own alone are written. -/
theorem SMid.mk' {w wr wx : World} {k : Nat} {m m' : R} {ds : List ToldD} {d : ToldD} {v kv vv ka va : Value} {p1 p2 : Nat} (h : SInv w k m ds v wr) (hX : Below wr.heap.size wr wx) (t : T2 wx kv vv m' ka va d) (Z1 : Blk wx p1 #[kv, vv] 42) (Z2 : Blk wx p2 #[.int .i64 d.val, .bool d.ok, ka, va] 50)
    (hn : w.heap.size < p1) : SMid w k m' ds d v p1 p2 wx := by
  obtain ⟨k0, v0, hb, _⟩ := h.box
  obtain ⟨cs, ho, hts⟩ := h.own
  exact ⟨⟨k0, v0, hb.below hX hb.lt⟩, ⟨cs, kd_below hX ho, hts.keep (KeepI.below hX)⟩, h.bel.trans (hX.mono h.bel.size), ⟨kv, vv, ka, va, Z1, Z2, t⟩, hn⟩
section
variable {w wr w1 : World} {k : Nat} {m m' : R} {v : Value} {ds : List ToldD} {d : ToldD} {K1 K2 N1 N2 : Option Addr} {l1 c1 c2 n1 n2 d1 d2 p q : Nat}
theorem blk_newS' (W : World) {n : Nat} (hn : W.heap.size = n) (cs : Array Value) (T : TypeId) : Blk (W.alloc (.cells cs T)) n cs T := by subst hn; exact Blk.new _ _ _
theorem sm_1 (h : SInv w k m ds v wr) (bw : Below wr.heap.size wr w1) (t1 : T2 w1 (.slice K1 l1 c1) (.slice K2 l1 c2) m' (.slice N1 n1 d1) (.slice N2 n2 d2) d) :
    SMid w k m' ds d v w1.heap.size (w1.heap.size + 1) ((w1.alloc (.cells #[.slice K1 l1 c1, .slice K2 l1 c2] 42)).alloc (.cells #[.int .i64 d.val, .bool d.ok, .slice N1 n1 d1, .slice N2 n2 d2] 50)) := by
  have hr : w.heap.size < wr.heap.size := by obtain ⟨_, _, hb, _⟩ := h.box; exact hb.lt
  have hs := bw.size
  have b2 : Below w1.heap.size w1 ((w1.alloc (.cells #[.slice K1 l1 c1, .slice K2 l1 c2] 42)).alloc (.cells #[.int .i64 d.val, .bool d.ok, .slice N1 n1 d1, .slice N2 n2 d2] 50)) := ((Below.refl _ w1).alloc (Nat.le_refl _) _).alloc (by simp) _
  exact SMid.mk' h (bw.trans (b2.mono hs)) (t1.below b2) ((Blk.new _ _ _).alloc _) (blk_new1' _ _ _ _) (by omega)
theorem sm_2 (h : SInv w k m ds v wr) (bw : Below wr.heap.size wr w1) (t1 : T2 w1 (.slice K1 l1 c1) (.slice K2 l1 c2) m' (.slice N1 n1 d1) (.slice N2 n2 d2) d) :
    SMid w k m' ds d v (w1.heap.size + 1) w1.heap.size ((w1.alloc (.cells #[.int .i64 d.val, .bool d.ok, .slice N1 n1 d1, .slice N2 n2 d2] 50)).alloc (.cells #[.slice K1 l1 c1, .slice K2 l1 c2] 42)) := by
  have hr : w.heap.size < wr.heap.size := by obtain ⟨_, _, hb, _⟩ := h.box; exact hb.lt
  have hs := bw.size
  have b2 : Below w1.heap.size w1 ((w1.alloc (.cells #[.int .i64 d.val, .bool d.ok, .slice N1 n1 d1, .slice N2 n2 d2] 50)).alloc (.cells #[.slice K1 l1 c1, .slice K2 l1 c2] 42)) := ((Below.refl _ w1).alloc (Nat.le_refl _) _).alloc (by simp) _
  exact SMid.mk' h (bw.trans (b2.mono hs)) (t1.below b2) (blk_new1' _ _ _ _) ((Blk.new _ _ _).alloc _) (by omega)
theorem sm_3 (h : SInv w k m ds v wr) (bw : Below wr.heap.size wr w1) (t1 : T2 w1 (.slice K1 l1 c1) (.slice K2 l1 c2) m' (.slice N1 n1 d1) (.slice N2 n2 d2) d) (hp : wr.heap.size ≤ p) (Z1 : Blk w1 p #[.slice none 0 0, .slice none 0 0] 42) :
    SMid w k m' ds d v p w1.heap.size (((w1.setCell ⟨p, 0, none⟩ (.slice K1 l1 c1)).setCell ⟨p, 1, none⟩ (.slice K2 l1 c2)).alloc (.cells #[.int .i64 d.val, .bool d.ok, .slice N1 n1 d1, .slice N2 n2 d2] 50)) := by
  have hr : w.heap.size < wr.heap.size := by obtain ⟨_, _, hb, _⟩ := h.box; exact hb.lt
  have hs := bw.size
  have b2 : Below wr.heap.size wr ((w1.setCell ⟨p, 0, none⟩ (.slice K1 l1 c1)).setCell ⟨p, 1, none⟩ (.slice K2 l1 c2)) := (bw.setCell hp _).setCell hp _
  have kp := (KeepI.set Z1 (by decide) (i := 0) (.slice K1 l1 c1)).trans (KeepI.set (Z1.set 0 (.slice K1 l1 c1)) (by decide) (i := 1) (.slice K2 l1 c2))
  exact SMid.mk' h (b2.alloc b2.size _) ((t1.keep kp).below ((Below.refl _ _).alloc (Nat.le_refl _) _)) (((Z1.set 0 _).set 1 _).alloc _) (blk_newS' _ (by simp [World.setCell]) _ _) (by omega)
theorem sm_4 (h : SInv w k m ds v wr) (bw : Below wr.heap.size wr w1) (t1 : T2 w1 (.slice K1 l1 c1) (.slice K2 l1 c2) m' (.slice N1 n1 d1) (.slice N2 n2 d2) d) (hp : wr.heap.size ≤ p) (hq : wr.heap.size ≤ q) (Z1 : Blk w1 p #[.slice none 0 0, .slice none 0 0] 42) (Z2 : Blk w1 q #[.int .i64 0, .bool false, .slice none 0 0, .slice none 0 0] 50) :
    SMid w k m' ds d v p q ((((((w1.setCell ⟨p, 0, none⟩ (.slice K1 l1 c1)).setCell ⟨p, 1, none⟩ (.slice K2 l1 c2)).setCell ⟨q, 0, none⟩ (.int .i64 d.val)).setCell ⟨q, 1, none⟩ (.bool d.ok)).setCell ⟨q, 2, none⟩ (.slice N1 n1 d1)).setCell ⟨q, 3, none⟩ (.slice N2 n2 d2)) := by
  have hr : w.heap.size < wr.heap.size := by obtain ⟨_, _, hb, _⟩ := h.box; exact hb.lt
  have hne : p ≠ q := fun e => by
    subst e
    unfold Blk at Z1 Z2
    rw [Z1] at Z2
    simp at Z2
  have f := six_fr w1 p q (.slice K1 l1 c1) (.slice K2 l1 c2) (.int .i64 d.val) (.bool d.ok) (.slice N1 n1 d1) (.slice N2 n2 d2)
  have kp := KeepI.fr f (fun x hx => by
    simp at hx
    rcases hx with rfl | rfl
    · exact ⟨_, _, Z1, by decide⟩
    · exact ⟨_, _, Z2, by decide⟩)
  have hb2 := bw.trans (f.below (fun x hx => by simp at hx; rcases hx with rfl | rfl <;> assumption) bw.size)
  have y1 := (((((Z1.set 0 (.slice K1 l1 c1)).set 1 (.slice K2 l1 c2)).far (i := 0) (v := .int .i64 d.val) hne).far (i := 1) (v := .bool d.ok) hne).far (i := 2) (v := .slice N1 n1 d1) hne).far (i := 3) (v := .slice N2 n2 d2) hne
  have y2 := ((((((Z2.far (i := 0) (v := .slice K1 l1 c1) (Ne.symm hne)).far (i := 1) (v := .slice K2 l1 c2) (Ne.symm hne)).set 0 (.int .i64 d.val)).set 1 (.bool d.ok)).set 2 (.slice N1 n1 d1)).set 3 (.slice N2 n2 d2))
  exact SMid.mk' (kv := .slice K1 l1 c1) (vv := .slice K2 l1 c2) (ka := .slice N1 n1 d1) (va := .slice N2 n2 d2) h hb2 (t1.keep kp) y1 y2 (by omega)
theorem sm_5 (h : SInv w k m ds v wr) (bw : Below wr.heap.size wr w1) (t1 : T2 w1 (.slice K1 l1 c1) (.slice K2 l1 c2) m' (.slice N1 n1 d1) (.slice N2 n2 d2) d) (hq : wr.heap.size ≤ q) (Z2 : Blk w1 q #[.int .i64 0, .bool false, .slice none 0 0, .slice none 0 0] 50) :
    SMid w k m' ds d v w1.heap.size q (((((w1.setCell ⟨q, 0, none⟩ (.int .i64 d.val)).setCell ⟨q, 1, none⟩ (.bool d.ok)).setCell ⟨q, 2, none⟩ (.slice N1 n1 d1)).setCell ⟨q, 3, none⟩ (.slice N2 n2 d2)).alloc (.cells #[.slice K1 l1 c1, .slice K2 l1 c2] 42)) := by
  have hr : w.heap.size < wr.heap.size := by obtain ⟨_, _, hb, _⟩ := h.box; exact hb.lt
  have hs := bw.size
  have b2 : Below wr.heap.size wr ((((w1.setCell ⟨q, 0, none⟩ (.int .i64 d.val)).setCell ⟨q, 1, none⟩ (.bool d.ok)).setCell ⟨q, 2, none⟩ (.slice N1 n1 d1)).setCell ⟨q, 3, none⟩ (.slice N2 n2 d2)) := (((bw.setCell hq _).setCell hq _).setCell hq _).setCell hq _
  have f : Fr [q] w1 ((((w1.setCell ⟨q, 0, none⟩ (.int .i64 d.val)).setCell ⟨q, 1, none⟩ (.bool d.ok)).setCell ⟨q, 2, none⟩ (.slice N1 n1 d1)).setCell ⟨q, 3, none⟩ (.slice N2 n2 d2)) := (((Fr.setCell w1 q 0 _ (by simp)).comp (Fr.setCell _ q 1 _ (by simp))).comp (Fr.setCell _ q 2 _ (by simp))).comp (Fr.setCell _ q 3 _ (by simp))
  have kp := KeepI.fr f (fun x hx => by rw [List.mem_singleton] at hx; subst hx; exact ⟨_, _, Z2, by decide⟩)
  exact SMid.mk' h (b2.alloc b2.size _) ((t1.keep kp).below ((Below.refl _ _).alloc (Nat.le_refl _) _)) (blk_newS' _ (by simp [World.setCell]) _ _) (((((Z2.set 0 _).set 1 _).set 2 _).set 3 _).alloc _) (by omega)
end
theorem Try.infoTold2 : (Try.prog.info? 50).map (fun i => (i.zero, i.size, i.bytes)) = some (some (.agg #[.int .i64 0, .bool false, .slice none 0 0, .slice none 0 0]), 4, 64) := by kernel_rfl
end Go.Proofs.Ytjbelfbfhcmgeaa.Kp
