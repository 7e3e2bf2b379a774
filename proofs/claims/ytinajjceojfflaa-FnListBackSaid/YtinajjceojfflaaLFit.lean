/- spec.LineFit. -/
import Derived.Test.YtinajjceojfflaaLTf
namespace Go.Proofs.Ytinajjceojfflaa.Kp
open Go.RowKit

theorem Try.infoStep : (Try.prog.info? 28).map (fun i => (i.zero, i.size, i.bytes)) = some (some (.agg #[.int .i64 0, .int .i64 0, .int .i64 0, .int .i64 0]), 4, 32) := by kernel_rfl
/-- at a round's head. -/
structure FI (w : World) (l : List StepD) (k : Nat) (v vv rv : Value) (wr : World) : Prop where
  lz : LZ wr w.heap.size vv rv (fitR (l.take k)).1.vals (zi (fitR (l.take k)).1.row)
  own : wr.ownsRow (w.heap.size + 1) 28 4 v k ((fitR (l.take k)).2.flatMap stepCell)
  bel : Below w.heap.size w wr
/-- a step in hand: b as it may be done by now. -/
structure FJ (w : World) (s : LineD) (v vv rv : Value) (k sb : Nat) (cs : List Value) (b : StepD) (W : World) : Prop where
  lz : LZ W w.heap.size vv rv s.vals (zi s.row)
  own : W.ownsRow (w.heap.size + 1) 28 4 v k cs
  bel : Below w.heap.size w W
  blk : Blk W sb #[.int .i64 b.on, .int .i64 b.act, .int .i64 b.key, .int .i64 b.val] 28
  sbl : w.heap.size < sb
  nown : v.ownBlock ≠ some sb
theorem FJ.below {w : World} {s : LineD} {v vv rv : Value} {k sb : Nat} {cs : List Value} {b : StepD} {W W2 : World} (h : FJ w s v vv rv k sb cs b W) (hb : Below W.heap.size W W2) : FJ w s v vv rv k sb cs b W2 :=
  ⟨h.lz.below hb, own_fr h.own (Fr.of_below (S := []) hb) (by simp), h.bel.trans (hb.mono h.bel.size), h.blk.below hb h.blk.lt, h.sbl, h.nown⟩
/-- the step is written anew. -/
theorem FJ.set {w : World} {s : LineD} {v vv rv : Value} {k sb : Nat} {cs : List Value} {b b' : StepD} {W W2 : World} (h : FJ w s v vv rv k sb cs b W) (hf : Fr [sb] W W2) (hb : Blk W2 sb #[.int .i64 b'.on, .int .i64 b'.act, .int .i64 b'.key, .int .i64 b'.val] 28) : FJ w s v vv rv k sb cs b' W2 := by
  have hk : KeepI W W2 := KeepI.fr hf (fun x hx => by rw [List.mem_singleton.1 hx]; exact ⟨_, _, h.blk, by decide⟩)
  exact ⟨⟨h.lz.blk.fr hf (by have := h.sbl; simp; omega), h.lz.vs.keep hk, h.lz.rs.keep hk⟩, own_fr h.own hf (fun x hx => by rw [List.mem_singleton.1 hx]; exact h.nown), h.bel.trans (hf.below (by have := h.sbl; simp; omega) h.bel.size), hb, h.sbl, h.nown⟩
theorem FJ.cells {w : World} {s : LineD} {v vv rv : Value} {k sb : Nat} {cs : List Value} {b : StepD} {W : World} (h : FJ w s v vv rv k sb cs b W) :
    W.cell? ⟨sb, 0, none⟩ = some (.int .i64 b.on) ∧ W.cell? ⟨sb, 1, none⟩ = some (.int .i64 b.act) ∧ W.cell? ⟨sb, 2, none⟩ = some (.int .i64 b.key) ∧ W.cell? ⟨sb, 3, none⟩ = some (.int .i64 b.val) ∧ W.cell? ⟨w.heap.size, 0, none⟩ = some vv ∧ W.cell? ⟨w.heap.size, 1, none⟩ = some rv ∧ (∀ i, W.frozen? ⟨sb, i, none⟩ = false) ∧ (∀ i, W.frozen? ⟨w.heap.size, i, none⟩ = false) :=
  ⟨h.blk.cell 0, h.blk.cell 1, h.blk.cell 2, h.blk.cell 3, h.lz.blk.cell 0, h.lz.blk.cell 1, h.blk.frozen, h.lz.blk.frozen⟩
/-- a step is taken into the hand. -/
theorem FI.hand {w : World} {l : List StepD} {k : Nat} {v vv rv : Value} {wr : World} (h : FI w l k v vv rv wr) (hw : w.heap.size < wr.heap.size) (a : StepD) :
    FJ w (fitR (l.take k)).1 v vv rv k wr.heap.size ((fitR (l.take k)).2.flatMap stepCell) a (wr.alloc (Obj.cells #[.int .i64 a.on, .int .i64 a.act, .int .i64 a.key, .int .i64 a.val] 28)) :=
  ⟨h.lz.below ((Below.refl _ wr).alloc (Nat.le_refl _) _), h.own.alloc _, h.bel.alloc (Nat.le_of_lt hw) _, Blk.new _ _ _, hw, fun e => by have := (h.own.lt _ e).2; omega⟩
/-- the round is over. -/
theorem FJ.done {w : World} {l : List StepD} {k : Nat} {v v' vv rv vv' rv' : Value} {a : StepD} {sb : Nat} {W W2 w3 : World} {o : Obj} (ha : l[k]? = some a)
    (h : FJ w (fitR (l.take k)).1 v vv rv k sb ((fitR (l.take k)).2.flatMap stepCell) (fitB (fitR (l.take k)).1 a) W)
    (hz : LZ W2 w.heap.size vv' rv' (doL (fitR (l.take k)).1 (fitB (fitR (l.take k)).1 a)).vals (zi (doL (fitR (l.take k)).1 (fitB (fitR (l.take k)).1 a)).row))
    (hb : Below w.heap.size w W2) (hg : (W2.alloc o).grownBy w3 v.ownBlock) (hv : ∀ g, v.ownBlock = some g → w.heap.size < g ∧ ∃ cur, Blk W2 g cur 28)
    (ho : w3.ownsRow (w.heap.size + 1) 28 4 v' (k + 1) ((fitR (l.take k)).2.flatMap stepCell ++ stepCell (fitB (fitR (l.take k)).1 a))) : FI w l (k + 1) v' vv' rv' w3 := by
  have hkl : k < l.length := (List.getElem?_eq_some_iff.1 ha).1
  have e : l.take (k + 1) = l.take k ++ [a] := by rw [List.take_succ_eq_append_getElem hkl]; congr; exact (List.getElem?_eq_some_iff.1 ha).2
  have f : Fr v.ownBlock.toList W2 w3 := (Fr.alloc [] W2 o).trans (S2 := v.ownBlock.toList) ⟨hg.os, hg.tape, hg.output, hg.size, fun k hk hn => hg.block k hk (fun e => hn (by rw [← e]; simp))⟩ (fun _ h => by cases h) (fun _ h => .inl h)
  have hk : KeepI W2 w3 := KeepI.fr f (fun b hb => by
    obtain ⟨_, cur, hc⟩ := hv b (by simpa using hb)
    exact ⟨cur, _, hc, by decide⟩)
  refine ⟨?_, ?_, hb.trans (f.below (fun b hb => by have := (hv b (by simpa using hb)).1; omega) hb.size)⟩
  · rw [e, fitR_snoc]
    exact ⟨hz.blk.fr f (fun hm => by have := (hv _ (by simpa using hm)).1; omega), hz.vs.keep hk, hz.rs.keep hk⟩
  · rw [e, fitR_snoc, List.flatMap_append]
    simpa using ho
/-- a walk in the place of what may not be done. -/
theorem FJ.idle {w : World} {s : LineD} {v vv rv : Value} {k sb : Nat} {cs : List Value} {b : StepD} {W : World} (h : FJ w s v vv rv k sb cs b W) :
    FJ w s v vv rv k sb cs ⟨0, 5, 0, 0⟩ ((((W.setCell ⟨sb, 0, none⟩ (.int .i64 0)).setCell ⟨sb, 1, none⟩ (.int .i64 5)).setCell ⟨sb, 2, none⟩ (.int .i64 0)).setCell ⟨sb, 3, none⟩ (.int .i64 0)) :=
  h.set (((((Fr.setCell W sb 0 _ (by simp)).comp (Fr.setCell _ sb 1 _ (by simp))).comp (Fr.setCell _ sb 2 _ (by simp))).comp (Fr.setCell _ sb 3 _ (by simp))))
    ((((h.blk.set 0 (.int .i64 0)).set 1 (.int .i64 5)).set 2 (.int .i64 0)).set 3 (.int .i64 0))
/-- the list is stored. -/
theorem FJ.stored {w : World} {s : LineD} {v vv rv : Value} {k sb : Nat} {cs : List Value} {b : StepD} {W : World} (h : FJ w s v vv rv k sb cs b W) (x y : Value) :
    let W5 := (W.setCell ⟨w.heap.size, 0, none⟩ x).setCell ⟨w.heap.size, 1, none⟩ y
    Blk W5 w.heap.size #[x, y] 71 ∧ W5.ownsRow (w.heap.size + 1) 28 4 v k cs ∧ Below w.heap.size w W5 ∧ Fr [w.heap.size] W W5 ∧ W5.heap.size = W.heap.size ∧ Blk W5 sb #[.int .i64 b.on, .int .i64 b.act, .int .i64 b.key, .int .i64 b.val] 28 := by
  have hf : Fr [w.heap.size] W ((W.setCell ⟨w.heap.size, 0, none⟩ x).setCell ⟨w.heap.size, 1, none⟩ y) := (Fr.setCell W w.heap.size 0 x (by simp)).comp (Fr.setCell _ w.heap.size 1 y (by simp))
  refine ⟨(h.lz.blk.set 0 x).set 1 y, own_fr h.own hf (fun g hg => ?_), h.bel.trans (hf.below (by simp) h.bel.size), hf, by simp [World.setCell], h.blk.fr hf (by have := h.sbl; simp; omega)⟩
  rw [List.mem_singleton.1 hg]
  intro e
  have := (h.own.lt _ e).1
  omega
theorem fit_close {w : World} {l : List StepD} {p : LineD × List StepD} {s s' : LineD} {os : List Value} {k sb : Nat} {a b : StepD} {v vv rv : Value} {A4 A5 : Option Addr} {n4 n5 c4 c5 : Nat} {W4 : World}
    (hp : p = fitR (l.take k)) (hos : os = p.2.flatMap stepCell) (hs : s = p.1) (hf : fitB s a = b) (hd : doL s b = s') (ha : l[k]? = some a) (h : FJ w s v vv rv k sb os b W4)
    (hn : NS W4 (.slice A4 n4 c4) s'.vals) (hr : NS W4 (.slice A5 n5 c5) (zi s'.row)) : ∀ (v' : Value) (w3 : World) (o : Obj),
    (((W4.setCell ⟨w.heap.size, 0, none⟩ (.slice A4 n4 c4)).setCell ⟨w.heap.size, 1, none⟩ (.slice A5 n5 c5)).alloc o).grownBy w3 v.ownBlock →
    w3.ownsRow (w.heap.size + 1) 28 4 v' (k + 1) (os ++ stepCell b) → FI w l (k + 1) v' (.slice A4 n4 c4) (.slice A5 n5 c5) w3 := by
  intro v' w3 o hg ho
  subst hd
  subst hf
  subst hos
  subst hs
  subst hp
  obtain ⟨q1, q2, q3, q4, _⟩ := h.stored (.slice A4 n4 c4) (.slice A5 n5 c5)
  have hk : KeepI W4 _ := KeepI.fr q4 (fun x hx => by rw [List.mem_singleton.1 hx]; exact ⟨_, _, h.lz.blk, by decide⟩)
  refine FJ.done ha h ⟨q1, hn.keep hk, hr.keep hk⟩ q3 hg (fun g hg2 => ?_) ho
  have hlt := (h.own.lt g hg2).1
  rcases q2.2 with ⟨e, _⟩ | ⟨g', cap, cur, e, e2, e3, _⟩
  · rw [e] at hg2; cases hg2
  · rw [e] at hg2; cases hg2
    exact ⟨hlt, cur, e3⟩
theorem or7 {a b c d e f g R : Prop} (h : a ∨ b ∨ c ∨ d ∨ e ∨ f ∨ g) (h1 : a → R) (h2 : b → R) (h3 : c → R) (h4 : d → R) (h5 : e → R) (h6 : f → R) (h7 : g → R) : R := by
  rcases h with h | h | h | h | h | h | h
  · exact h1 h
  · exact h2 h
  · exact h3 h
  · exact h4 h
  · exact h5 h
  · exact h6 h
  · exact h7 h
set_option maxRecDepth 100000 in
set_option maxHeartbeats 6400000 in
theorem lineFit_calls (lv : Value) (l : List StepD) (w : World) (hl : SlC 4 stepCell w w.heap.size lv l) (hln : l.length ≤ 3000000000) :
    Calls Try.prog 21 #[lv] w fun e w' => ∃ v', e = .returned v' ∧ w'.ownsRow w.heap.size 28 4 v' l.length ((fitR l).2.flatMap stepCell) ∧ Below w.heap.size w w' := by
  obtain ⟨i0, hi0, hz0, hz1, hz2⟩ := info_parts Try.infoStep
  obtain ⟨A3, c3, rfl⟩ := hl.form
  have HL := Lib.hid hl
  have HI := Lib.hid (show FI w l 0 (.slice none 0 0) (.slice none 0 0) (.slice none 0 0) (w.alloc (Obj.cells #[.slice none 0 0, .slice none 0 0] 71)) from ⟨⟨Blk.new _ _ _, NS.nil _, NS.nil _⟩, World.ownsRow_nil _ _ _ _, (Below.refl _ w).alloc (Nat.le_refl _) _⟩)
  clear hl
  go_enter Try.func21, Try.ntmps21
  go_wp2_with fail
  go_loopw [4, 5] (fun v i wr => ∃ k vv rv, k ≤ l.length ∧ i = .int .i64 (k : Nat) ∧ Hid (FI w l k v vv rv wr)) (fun _ i _ => l.length - (intOf i).toNat)
  case atStart => exact ⟨0, _, _, Nat.zero_le _, rfl, HI⟩
  case round =>
    obtain ⟨k, vv, rv, hk, rfl, HK⟩ := hrel
    by_cases hlt : k < l.length
    · obtain ⟨b, off, a, rfl, g1, g3, g4, g5, z⟩ := HL.out.at_ hlt
      obtain ⟨on, act, key, val⟩ := a
      have hw : Below w.heap.size w wr := HK.out.bel
      have q0 := (hw.cell (p := ⟨b, off + k * 4, none⟩) g3).trans (z 0 _ rfl)
      have q1 := (hw.cell (p := ⟨b, off + k * 4 + 1, none⟩) g3).trans (z 1 _ rfl)
      have q2 := (hw.cell (p := ⟨b, off + k * 4 + 2, none⟩) g3).trans (z 2 _ rfl)
      have q3 := (hw.cell (p := ⟨b, off + k * 4 + 3, none⟩) g3).trans (z 3 _ rfl)
      have blt : b < wr.heap.size := Nat.lt_of_lt_of_le g4 hw.size
      have HA := Lib.hid g5
      have hsz : w.heap.size < wr.heap.size := HK.out.lz.blk.lt
      have HJ := Lib.hid (HK.out.hand hsz ⟨on, act, key, val⟩)
      obtain ⟨p, hp⟩ : ∃ p, p = fitR (l.take k) := ⟨_, rfl⟩
      rw [← hp] at HJ
      have HP := Lib.hid hp
      obtain ⟨hst, hok, hol⟩ := fit_ok _ (l.take k) rfl
      have hbd := stL_len (fitR (l.take k)).2
      have hrl := stL_lt _ (fitR (l.take k)).2 rfl hok
      rw [hst, hol, List.length_take] at hbd
      rw [hst] at hrl
      rw [← hp] at hbd hrl
      have hsl : p.1.vals.length ≤ 3000000000 := by omega
      have hrw : p.1.row.length ≤ 3000000000 := by omega
      have HRL := Lib.hid hrl
      clear g5 z hw hst hok hol hbd hrl hp
      obtain ⟨os, hos⟩ : ∃ os, os = p.2.flatMap stepCell := ⟨_, rfl⟩
      rw [← hos] at HJ
      have HOS := Lib.hid hos
      obtain ⟨s, hs⟩ : ∃ s, s = p.1 := ⟨_, rfl⟩
      rw [← hs] at HJ HRL hsl hrw
      have HSS := Lib.hid hs
      clear hs hos
      obtain ⟨Av, cv, rfl⟩ := HJ.out.lz.vs.form
      obtain ⟨Ar, cr, rfl⟩ := HJ.out.lz.rs.form
      have bb0 : wr.cell? ⟨w.heap.size, 0, none⟩ = some (.slice Av s.vals.length cv) := by
        have := HK.out.lz.blk.cell 0
        exact this
      have bb1 : wr.cell? ⟨w.heap.size, 1, none⟩ = some (.slice Ar (zi s.row).length cr) := HK.out.lz.blk.cell 1
      have fbb := HK.out.lz.blk.frozen
      have dd : s.vals.length = 0 ∨ (0 < s.vals.length ∧ act = 2) ∨ (0 < s.vals.length ∧ act = 3) ∨ (0 < s.vals.length ∧ act = 4) ∨ (0 < s.vals.length ∧ act = 7) ∨ (0 < s.vals.length ∧ act = 8) ∨ (0 < s.vals.length ∧ (act == 2) = false ∧ (act == 3) = false ∧ (act == 4) = false ∧ (act == 7) = false ∧ (act == 8) = false) := by
        simp only [beq_eq_false_iff_ne]; omega
      refine or7 dd ?k0 ?k1 ?k2 ?k3 ?k4 ?k5 ?k6 <;> (clear dd; intro dd)
      case' k0 =>
        have h0 := dd
        clear dd
        have HB := Lib.hid (show modB s ⟨on, act, key, val⟩ = ⟨on, act, key, val⟩ by unfold modB; rw [if_neg (by omega)])
        have g0 : (0 < (s.vals.length : Int)) = False := eq_false (by omega)
        have g01 : decide (0 < (s.vals.length : Int)) = false := decide_eq_false (by omega)
        have g03 : ¬ (0 < (s.vals.length : Int)) := by omega
        have g04 : ¬ (0 < s.vals.length) := by omega
        have g05 : decide (0 < s.vals.length) = false := decide_eq_false (by omega)
        clear h0
        have HJ1 := Lib.hid (HK.out.hand hsz ⟨on, act, key, val⟩)
        rw [← HP.out, ← HOS.out, ← HSS.out] at HJ1
        go_upto_region 10 with (fail)
        generalize (wr.alloc (Obj.cells #[.int .i64 on, .int .i64 act, .int .i64 key, .int .i64 (val)] 28)) = W1 at *
        clear q0 q1 q2 q3 blt bb0 bb1 fbb g0 g01 g03 g04 g05
        obtain ⟨f0, f1, f2, f3, f4, f5, ff1, ff2⟩ := HJ1.out.cells
        simp only at f0 f1 f2 f3
        have HM := Lib.hid (may_calls s.vals (zi s.row) _ _ on act key (val) W1 HJ1.out.lz.vs HJ1.out.lz.rs (by unfold zi; rw [List.length_map]; omega) (by omega))
        obtain ⟨mz, hmz⟩ : ∃ mz, mz = mayZ s.vals (zi s.row) ⟨on, act, key, val⟩ := ⟨_, rfl⟩
        rw [← hmz] at HM
        have HMZ := Lib.hid hmz.symm
        clear hmz
        go_wp2_with fail
        refine HM.out.mono ?_
        rintro e W2 ⟨rfl, B2⟩
        have HJ2 := Lib.hid (HJ1.out.below B2)
        clear f0 f1 f2 f3 f4 f5 ff1 ff2 B2 HM HJ1 HJ
        obtain ⟨f0, f1, f2, f3, f4, f5, ff1, ff2⟩ := HJ2.out.cells
        simp only at f0 f1 f2 f3
        rcases mz with _ | _
        · go_upto_region 12 with (fail)
          have HF := Lib.hid (show fitB s ⟨on, act, key, val⟩ = ⟨0, 5, 0, 0⟩ by unfold fitB; rw [HB.out, if_neg (by rw [HMZ.out]; simp)])
          have HJ3 := Lib.hid HJ2.out.idle
          generalize ((((W2.setCell ⟨wr.heap.size, 0, none⟩ (.int .i64 0)).setCell ⟨wr.heap.size, 1, none⟩ (.int .i64 5)).setCell ⟨wr.heap.size, 2, none⟩ (.int .i64 0)).setCell ⟨wr.heap.size, 3, none⟩ (.int .i64 0)) = W3 at *
          clear f0 f1 f2 f3 f4 f5 ff1 ff2 HJ2
          obtain ⟨f0, f1, f2, f3, f4, f5, ff1, ff2⟩ := HJ3.out.cells
          simp only at f0 f1 f2 f3
          have HD := Lib.hid (zdo_calls s _ _ (0) (5) (0) (0) W3 HJ3.out.lz.vs HJ3.out.lz.rs (by omega) (by omega) HRL.out (by have := fitB_may s ⟨on, act, key, val⟩; rw [HF.out] at this; exact this))
          go_wp2_with fail
          (with_reducible refine HD.out.mono ?_)
          rintro e W4 ⟨A4, c4, A5, c5, sn, rfl, n4, n5, b4⟩
          have HN := Lib.hid (And.intro n4 n5)
          have HJ4 := Lib.hid (HJ3.out.below b4)
          clear f0 f1 f2 f3 f4 f5 ff1 ff2 HJ3 HD n4 n5 b4
          obtain ⟨f0, f1, f2, f3, f4, f5, ff1, ff2⟩ := HJ4.out.cells
          simp only at f0 f1 f2 f3
          generalize hds : doL s ⟨0, 5, 0, 0⟩ = s' at *
          have HDS := Lib.hid hds
          clear hds
          have HT := Lib.hid (HJ4.out.stored (.slice A4 s'.vals.length c4) (.slice A5 (zi s'.row).length c5))
          have HCL := Lib.hid (fit_close HP.out HOS.out HSS.out HF.out HDS.out HA.out HJ4.out HN.out.1 HN.out.2)
          go_upto_region 13 with (fail)
          generalize ((W4.setCell ⟨w.heap.size, 0, none⟩ (.slice A4 s'.vals.length c4)).setCell ⟨w.heap.size, 1, none⟩ (.slice A5 (zi s'.row).length c5)) = W5 at *
          clear f0 f1 f2 f3 f4 f5 ff1 ff2
          have f0 := HT.out.2.2.2.2.2.cell 0
          have f1 := HT.out.2.2.2.2.2.cell 1
          have f2 := HT.out.2.2.2.2.2.cell 2
          have f3 := HT.out.2.2.2.2.2.cell 3
          simp only [List.getElem?_toArray, List.getElem?_cons_succ, List.getElem?_cons_zero] at f0 f1 f2 f3
          have z5 : w.heap.size + 1 ≤ W5.heap.size := HT.out.1.lt
          go_wp2_with (at_builtin; refine wpList_append_own _ rfl (.tmp 64) (.tmp 66) 23 rfl (w.heap.size + 1) 28 i0 _ 4 32 Try.underlying23 hi0 hz0 hz1 hz2 rfl (by omega) u4 k os rfl (HT.out.2.1.alloc _) ⟨W5.heap.size, 0, none⟩ 1 1 [.int .i64 (0), .int .i64 (5), .int .i64 (0), .int .i64 (0)] rfl rfl (news_blk (Blk.new _ _ _)) (by simp [Value.oneCell']) (by unfold maxLen; omega) (by omega) (by simp; omega) ?_; intro v' w3 hown' hgrow _)
          exact ⟨⟨k + 1, _, _, by omega, by go_num, Lib.hid (HCL.out _ _ _ hgrow hown')⟩, by simp [intOf]; omega⟩
        · go_upto_region 12 with (fail)
          have HF := Lib.hid (show fitB s ⟨on, act, key, val⟩ = ⟨on, act, key, val⟩ by unfold fitB; rw [HB.out, if_pos HMZ.out])
          have HJ3 := HJ2
          clear f0 f1 f2 f3 f4 f5 ff1 ff2 HJ2
          obtain ⟨f0, f1, f2, f3, f4, f5, ff1, ff2⟩ := HJ3.out.cells
          simp only at f0 f1 f2 f3
          have HD := Lib.hid (zdo_calls s _ _ (on) (act) (key) (val) W2 HJ3.out.lz.vs HJ3.out.lz.rs (by omega) (by omega) HRL.out (by have := fitB_may s ⟨on, act, key, val⟩; rw [HF.out] at this; exact this))
          go_wp2_with fail
          (with_reducible refine HD.out.mono ?_)
          rintro e W4 ⟨A4, c4, A5, c5, sn, rfl, n4, n5, b4⟩
          have HN := Lib.hid (And.intro n4 n5)
          have HJ4 := Lib.hid (HJ3.out.below b4)
          clear f0 f1 f2 f3 f4 f5 ff1 ff2 HJ3 HD n4 n5 b4
          obtain ⟨f0, f1, f2, f3, f4, f5, ff1, ff2⟩ := HJ4.out.cells
          simp only at f0 f1 f2 f3
          generalize hds : doL s ⟨on, act, key, val⟩ = s' at *
          have HDS := Lib.hid hds
          clear hds
          have HT := Lib.hid (HJ4.out.stored (.slice A4 s'.vals.length c4) (.slice A5 (zi s'.row).length c5))
          have HCL := Lib.hid (fit_close HP.out HOS.out HSS.out HF.out HDS.out HA.out HJ4.out HN.out.1 HN.out.2)
          go_upto_region 13 with (fail)
          generalize ((W4.setCell ⟨w.heap.size, 0, none⟩ (.slice A4 s'.vals.length c4)).setCell ⟨w.heap.size, 1, none⟩ (.slice A5 (zi s'.row).length c5)) = W5 at *
          clear f0 f1 f2 f3 f4 f5 ff1 ff2
          have f0 := HT.out.2.2.2.2.2.cell 0
          have f1 := HT.out.2.2.2.2.2.cell 1
          have f2 := HT.out.2.2.2.2.2.cell 2
          have f3 := HT.out.2.2.2.2.2.cell 3
          simp only [List.getElem?_toArray, List.getElem?_cons_succ, List.getElem?_cons_zero] at f0 f1 f2 f3
          have z5 : w.heap.size + 1 ≤ W5.heap.size := HT.out.1.lt
          go_wp2_with (at_builtin; refine wpList_append_own _ rfl (.tmp 64) (.tmp 66) 23 rfl (w.heap.size + 1) 28 i0 _ 4 32 Try.underlying23 hi0 hz0 hz1 hz2 rfl (by omega) u4 k os rfl (HT.out.2.1.alloc _) ⟨W5.heap.size, 0, none⟩ 1 1 [.int .i64 (on), .int .i64 (act), .int .i64 (key), .int .i64 (val)] rfl rfl (news_blk (Blk.new _ _ _)) (by simp [Value.oneCell']) (by unfold maxLen; omega) (by omega) (by simp; omega) ?_; intro v' w3 hown' hgrow _)
          exact ⟨⟨k + 1, _, _, by omega, by go_num, Lib.hid (HCL.out _ _ _ hgrow hown')⟩, by simp [intOf]; omega⟩
      case' k1 =>
        obtain ⟨h0, rfl⟩ := dd
        have HB := Lib.hid (show modB s ⟨on, 2, key, val⟩ = ⟨on, 2, key, val % (s.vals.length : Int)⟩ by unfold modB; rw [if_pos ⟨h0, by simp⟩])
        have g0 : (0 < (s.vals.length : Int)) = True := eq_true (by omega)
        have g1 : 0 < (s.vals.length : Int) := by omega
        clear h0
        have HJ1 := Lib.hid (HK.out.hand hsz ⟨on, 2, key, val % (s.vals.length : Int)⟩)
        rw [← HP.out, ← HOS.out, ← HSS.out] at HJ1
        go_wp2_with fail
        refine (specMod_calls val (s.vals.length : Int) _ g1 (by omega)).mono ?_
        rintro e Wm ⟨rfl, rfl⟩
        go_upto_region 10 with (fail)
        generalize (wr.alloc (Obj.cells #[.int .i64 on, .int .i64 2, .int .i64 key, .int .i64 (val % (s.vals.length : Int))] 28)) = W1 at *
        clear q0 q1 q2 q3 blt bb0 bb1 fbb g0
        obtain ⟨f0, f1, f2, f3, f4, f5, ff1, ff2⟩ := HJ1.out.cells
        simp only at f0 f1 f2 f3
        have HM := Lib.hid (may_calls s.vals (zi s.row) _ _ on 2 key (val % (s.vals.length : Int)) W1 HJ1.out.lz.vs HJ1.out.lz.rs (by unfold zi; rw [List.length_map]; omega) (by omega))
        obtain ⟨mz, hmz⟩ : ∃ mz, mz = mayZ s.vals (zi s.row) ⟨on, 2, key, val % (s.vals.length : Int)⟩ := ⟨_, rfl⟩
        rw [← hmz] at HM
        have HMZ := Lib.hid hmz.symm
        clear hmz
        go_wp2_with fail
        refine HM.out.mono ?_
        rintro e W2 ⟨rfl, B2⟩
        have HJ2 := Lib.hid (HJ1.out.below B2)
        clear f0 f1 f2 f3 f4 f5 ff1 ff2 B2 HM HJ1 HJ
        obtain ⟨f0, f1, f2, f3, f4, f5, ff1, ff2⟩ := HJ2.out.cells
        simp only at f0 f1 f2 f3
        rcases mz with _ | _
        · go_upto_region 12 with (fail)
          have HF := Lib.hid (show fitB s ⟨on, 2, key, val⟩ = ⟨0, 5, 0, 0⟩ by unfold fitB; rw [HB.out, if_neg (by rw [HMZ.out]; simp)])
          have HJ3 := Lib.hid HJ2.out.idle
          generalize ((((W2.setCell ⟨wr.heap.size, 0, none⟩ (.int .i64 0)).setCell ⟨wr.heap.size, 1, none⟩ (.int .i64 5)).setCell ⟨wr.heap.size, 2, none⟩ (.int .i64 0)).setCell ⟨wr.heap.size, 3, none⟩ (.int .i64 0)) = W3 at *
          clear f0 f1 f2 f3 f4 f5 ff1 ff2 HJ2
          obtain ⟨f0, f1, f2, f3, f4, f5, ff1, ff2⟩ := HJ3.out.cells
          simp only at f0 f1 f2 f3
          have HD := Lib.hid (zdo_calls s _ _ (0) (5) (0) (0) W3 HJ3.out.lz.vs HJ3.out.lz.rs (by omega) (by omega) HRL.out (by have := fitB_may s ⟨on, 2, key, val⟩; rw [HF.out] at this; exact this))
          go_wp2_with fail
          (with_reducible refine HD.out.mono ?_)
          rintro e W4 ⟨A4, c4, A5, c5, sn, rfl, n4, n5, b4⟩
          have HN := Lib.hid (And.intro n4 n5)
          have HJ4 := Lib.hid (HJ3.out.below b4)
          clear f0 f1 f2 f3 f4 f5 ff1 ff2 HJ3 HD n4 n5 b4
          obtain ⟨f0, f1, f2, f3, f4, f5, ff1, ff2⟩ := HJ4.out.cells
          simp only at f0 f1 f2 f3
          generalize hds : doL s ⟨0, 5, 0, 0⟩ = s' at *
          have HDS := Lib.hid hds
          clear hds
          have HT := Lib.hid (HJ4.out.stored (.slice A4 s'.vals.length c4) (.slice A5 (zi s'.row).length c5))
          have HCL := Lib.hid (fit_close HP.out HOS.out HSS.out HF.out HDS.out HA.out HJ4.out HN.out.1 HN.out.2)
          go_upto_region 13 with (fail)
          generalize ((W4.setCell ⟨w.heap.size, 0, none⟩ (.slice A4 s'.vals.length c4)).setCell ⟨w.heap.size, 1, none⟩ (.slice A5 (zi s'.row).length c5)) = W5 at *
          clear f0 f1 f2 f3 f4 f5 ff1 ff2
          have f0 := HT.out.2.2.2.2.2.cell 0
          have f1 := HT.out.2.2.2.2.2.cell 1
          have f2 := HT.out.2.2.2.2.2.cell 2
          have f3 := HT.out.2.2.2.2.2.cell 3
          simp only [List.getElem?_toArray, List.getElem?_cons_succ, List.getElem?_cons_zero] at f0 f1 f2 f3
          have z5 : w.heap.size + 1 ≤ W5.heap.size := HT.out.1.lt
          go_wp2_with (at_builtin; refine wpList_append_own _ rfl (.tmp 64) (.tmp 66) 23 rfl (w.heap.size + 1) 28 i0 _ 4 32 Try.underlying23 hi0 hz0 hz1 hz2 rfl (by omega) u4 k os rfl (HT.out.2.1.alloc _) ⟨W5.heap.size, 0, none⟩ 1 1 [.int .i64 (0), .int .i64 (5), .int .i64 (0), .int .i64 (0)] rfl rfl (news_blk (Blk.new _ _ _)) (by simp [Value.oneCell']) (by unfold maxLen; omega) (by omega) (by simp; omega) ?_; intro v' w3 hown' hgrow _)
          exact ⟨⟨k + 1, _, _, by omega, by go_num, Lib.hid (HCL.out _ _ _ hgrow hown')⟩, by simp [intOf]; omega⟩
        · go_upto_region 12 with (fail)
          have HF := Lib.hid (show fitB s ⟨on, 2, key, val⟩ = ⟨on, 2, key, val % (s.vals.length : Int)⟩ by unfold fitB; rw [HB.out, if_pos HMZ.out])
          have HJ3 := HJ2
          clear f0 f1 f2 f3 f4 f5 ff1 ff2 HJ2
          obtain ⟨f0, f1, f2, f3, f4, f5, ff1, ff2⟩ := HJ3.out.cells
          simp only at f0 f1 f2 f3
          have HD := Lib.hid (zdo_calls s _ _ (on) (2) (key) (val % (s.vals.length : Int)) W2 HJ3.out.lz.vs HJ3.out.lz.rs (by omega) (by omega) HRL.out (by have := fitB_may s ⟨on, 2, key, val⟩; rw [HF.out] at this; exact this))
          go_wp2_with fail
          (with_reducible refine HD.out.mono ?_)
          rintro e W4 ⟨A4, c4, A5, c5, sn, rfl, n4, n5, b4⟩
          have HN := Lib.hid (And.intro n4 n5)
          have HJ4 := Lib.hid (HJ3.out.below b4)
          clear f0 f1 f2 f3 f4 f5 ff1 ff2 HJ3 HD n4 n5 b4
          obtain ⟨f0, f1, f2, f3, f4, f5, ff1, ff2⟩ := HJ4.out.cells
          simp only at f0 f1 f2 f3
          generalize hds : doL s ⟨on, 2, key, val % (s.vals.length : Int)⟩ = s' at *
          have HDS := Lib.hid hds
          clear hds
          have HT := Lib.hid (HJ4.out.stored (.slice A4 s'.vals.length c4) (.slice A5 (zi s'.row).length c5))
          have HCL := Lib.hid (fit_close HP.out HOS.out HSS.out HF.out HDS.out HA.out HJ4.out HN.out.1 HN.out.2)
          go_upto_region 13 with (fail)
          generalize ((W4.setCell ⟨w.heap.size, 0, none⟩ (.slice A4 s'.vals.length c4)).setCell ⟨w.heap.size, 1, none⟩ (.slice A5 (zi s'.row).length c5)) = W5 at *
          clear f0 f1 f2 f3 f4 f5 ff1 ff2
          have f0 := HT.out.2.2.2.2.2.cell 0
          have f1 := HT.out.2.2.2.2.2.cell 1
          have f2 := HT.out.2.2.2.2.2.cell 2
          have f3 := HT.out.2.2.2.2.2.cell 3
          simp only [List.getElem?_toArray, List.getElem?_cons_succ, List.getElem?_cons_zero] at f0 f1 f2 f3
          have z5 : w.heap.size + 1 ≤ W5.heap.size := HT.out.1.lt
          go_wp2_with (at_builtin; refine wpList_append_own _ rfl (.tmp 64) (.tmp 66) 23 rfl (w.heap.size + 1) 28 i0 _ 4 32 Try.underlying23 hi0 hz0 hz1 hz2 rfl (by omega) u4 k os rfl (HT.out.2.1.alloc _) ⟨W5.heap.size, 0, none⟩ 1 1 [.int .i64 (on), .int .i64 (2), .int .i64 (key), .int .i64 (val % (s.vals.length : Int))] rfl rfl (news_blk (Blk.new _ _ _)) (by simp [Value.oneCell']) (by unfold maxLen; omega) (by omega) (by simp; omega) ?_; intro v' w3 hown' hgrow _)
          exact ⟨⟨k + 1, _, _, by omega, by go_num, Lib.hid (HCL.out _ _ _ hgrow hown')⟩, by simp [intOf]; omega⟩
      case' k2 =>
        obtain ⟨h0, rfl⟩ := dd
        have HB := Lib.hid (show modB s ⟨on, 3, key, val⟩ = ⟨on, 3, key, val % (s.vals.length : Int)⟩ by unfold modB; rw [if_pos ⟨h0, by simp⟩])
        have g0 : (0 < (s.vals.length : Int)) = True := eq_true (by omega)
        have g1 : 0 < (s.vals.length : Int) := by omega
        clear h0
        have HJ1 := Lib.hid (HK.out.hand hsz ⟨on, 3, key, val % (s.vals.length : Int)⟩)
        rw [← HP.out, ← HOS.out, ← HSS.out] at HJ1
        go_wp2_with fail
        refine (specMod_calls val (s.vals.length : Int) _ g1 (by omega)).mono ?_
        rintro e Wm ⟨rfl, rfl⟩
        go_upto_region 10 with (fail)
        generalize (wr.alloc (Obj.cells #[.int .i64 on, .int .i64 3, .int .i64 key, .int .i64 (val % (s.vals.length : Int))] 28)) = W1 at *
        clear q0 q1 q2 q3 blt bb0 bb1 fbb g0
        obtain ⟨f0, f1, f2, f3, f4, f5, ff1, ff2⟩ := HJ1.out.cells
        simp only at f0 f1 f2 f3
        have HM := Lib.hid (may_calls s.vals (zi s.row) _ _ on 3 key (val % (s.vals.length : Int)) W1 HJ1.out.lz.vs HJ1.out.lz.rs (by unfold zi; rw [List.length_map]; omega) (by omega))
        obtain ⟨mz, hmz⟩ : ∃ mz, mz = mayZ s.vals (zi s.row) ⟨on, 3, key, val % (s.vals.length : Int)⟩ := ⟨_, rfl⟩
        rw [← hmz] at HM
        have HMZ := Lib.hid hmz.symm
        clear hmz
        go_wp2_with fail
        refine HM.out.mono ?_
        rintro e W2 ⟨rfl, B2⟩
        have HJ2 := Lib.hid (HJ1.out.below B2)
        clear f0 f1 f2 f3 f4 f5 ff1 ff2 B2 HM HJ1 HJ
        obtain ⟨f0, f1, f2, f3, f4, f5, ff1, ff2⟩ := HJ2.out.cells
        simp only at f0 f1 f2 f3
        rcases mz with _ | _
        · go_upto_region 12 with (fail)
          have HF := Lib.hid (show fitB s ⟨on, 3, key, val⟩ = ⟨0, 5, 0, 0⟩ by unfold fitB; rw [HB.out, if_neg (by rw [HMZ.out]; simp)])
          have HJ3 := Lib.hid HJ2.out.idle
          generalize ((((W2.setCell ⟨wr.heap.size, 0, none⟩ (.int .i64 0)).setCell ⟨wr.heap.size, 1, none⟩ (.int .i64 5)).setCell ⟨wr.heap.size, 2, none⟩ (.int .i64 0)).setCell ⟨wr.heap.size, 3, none⟩ (.int .i64 0)) = W3 at *
          clear f0 f1 f2 f3 f4 f5 ff1 ff2 HJ2
          obtain ⟨f0, f1, f2, f3, f4, f5, ff1, ff2⟩ := HJ3.out.cells
          simp only at f0 f1 f2 f3
          have HD := Lib.hid (zdo_calls s _ _ (0) (5) (0) (0) W3 HJ3.out.lz.vs HJ3.out.lz.rs (by omega) (by omega) HRL.out (by have := fitB_may s ⟨on, 3, key, val⟩; rw [HF.out] at this; exact this))
          go_wp2_with fail
          (with_reducible refine HD.out.mono ?_)
          rintro e W4 ⟨A4, c4, A5, c5, sn, rfl, n4, n5, b4⟩
          have HN := Lib.hid (And.intro n4 n5)
          have HJ4 := Lib.hid (HJ3.out.below b4)
          clear f0 f1 f2 f3 f4 f5 ff1 ff2 HJ3 HD n4 n5 b4
          obtain ⟨f0, f1, f2, f3, f4, f5, ff1, ff2⟩ := HJ4.out.cells
          simp only at f0 f1 f2 f3
          generalize hds : doL s ⟨0, 5, 0, 0⟩ = s' at *
          have HDS := Lib.hid hds
          clear hds
          have HT := Lib.hid (HJ4.out.stored (.slice A4 s'.vals.length c4) (.slice A5 (zi s'.row).length c5))
          have HCL := Lib.hid (fit_close HP.out HOS.out HSS.out HF.out HDS.out HA.out HJ4.out HN.out.1 HN.out.2)
          go_upto_region 13 with (fail)
          generalize ((W4.setCell ⟨w.heap.size, 0, none⟩ (.slice A4 s'.vals.length c4)).setCell ⟨w.heap.size, 1, none⟩ (.slice A5 (zi s'.row).length c5)) = W5 at *
          clear f0 f1 f2 f3 f4 f5 ff1 ff2
          have f0 := HT.out.2.2.2.2.2.cell 0
          have f1 := HT.out.2.2.2.2.2.cell 1
          have f2 := HT.out.2.2.2.2.2.cell 2
          have f3 := HT.out.2.2.2.2.2.cell 3
          simp only [List.getElem?_toArray, List.getElem?_cons_succ, List.getElem?_cons_zero] at f0 f1 f2 f3
          have z5 : w.heap.size + 1 ≤ W5.heap.size := HT.out.1.lt
          go_wp2_with (at_builtin; refine wpList_append_own _ rfl (.tmp 64) (.tmp 66) 23 rfl (w.heap.size + 1) 28 i0 _ 4 32 Try.underlying23 hi0 hz0 hz1 hz2 rfl (by omega) u4 k os rfl (HT.out.2.1.alloc _) ⟨W5.heap.size, 0, none⟩ 1 1 [.int .i64 (0), .int .i64 (5), .int .i64 (0), .int .i64 (0)] rfl rfl (news_blk (Blk.new _ _ _)) (by simp [Value.oneCell']) (by unfold maxLen; omega) (by omega) (by simp; omega) ?_; intro v' w3 hown' hgrow _)
          exact ⟨⟨k + 1, _, _, by omega, by go_num, Lib.hid (HCL.out _ _ _ hgrow hown')⟩, by simp [intOf]; omega⟩
        · go_upto_region 12 with (fail)
          have HF := Lib.hid (show fitB s ⟨on, 3, key, val⟩ = ⟨on, 3, key, val % (s.vals.length : Int)⟩ by unfold fitB; rw [HB.out, if_pos HMZ.out])
          have HJ3 := HJ2
          clear f0 f1 f2 f3 f4 f5 ff1 ff2 HJ2
          obtain ⟨f0, f1, f2, f3, f4, f5, ff1, ff2⟩ := HJ3.out.cells
          simp only at f0 f1 f2 f3
          have HD := Lib.hid (zdo_calls s _ _ (on) (3) (key) (val % (s.vals.length : Int)) W2 HJ3.out.lz.vs HJ3.out.lz.rs (by omega) (by omega) HRL.out (by have := fitB_may s ⟨on, 3, key, val⟩; rw [HF.out] at this; exact this))
          go_wp2_with fail
          (with_reducible refine HD.out.mono ?_)
          rintro e W4 ⟨A4, c4, A5, c5, sn, rfl, n4, n5, b4⟩
          have HN := Lib.hid (And.intro n4 n5)
          have HJ4 := Lib.hid (HJ3.out.below b4)
          clear f0 f1 f2 f3 f4 f5 ff1 ff2 HJ3 HD n4 n5 b4
          obtain ⟨f0, f1, f2, f3, f4, f5, ff1, ff2⟩ := HJ4.out.cells
          simp only at f0 f1 f2 f3
          generalize hds : doL s ⟨on, 3, key, val % (s.vals.length : Int)⟩ = s' at *
          have HDS := Lib.hid hds
          clear hds
          have HT := Lib.hid (HJ4.out.stored (.slice A4 s'.vals.length c4) (.slice A5 (zi s'.row).length c5))
          have HCL := Lib.hid (fit_close HP.out HOS.out HSS.out HF.out HDS.out HA.out HJ4.out HN.out.1 HN.out.2)
          go_upto_region 13 with (fail)
          generalize ((W4.setCell ⟨w.heap.size, 0, none⟩ (.slice A4 s'.vals.length c4)).setCell ⟨w.heap.size, 1, none⟩ (.slice A5 (zi s'.row).length c5)) = W5 at *
          clear f0 f1 f2 f3 f4 f5 ff1 ff2
          have f0 := HT.out.2.2.2.2.2.cell 0
          have f1 := HT.out.2.2.2.2.2.cell 1
          have f2 := HT.out.2.2.2.2.2.cell 2
          have f3 := HT.out.2.2.2.2.2.cell 3
          simp only [List.getElem?_toArray, List.getElem?_cons_succ, List.getElem?_cons_zero] at f0 f1 f2 f3
          have z5 : w.heap.size + 1 ≤ W5.heap.size := HT.out.1.lt
          go_wp2_with (at_builtin; refine wpList_append_own _ rfl (.tmp 64) (.tmp 66) 23 rfl (w.heap.size + 1) 28 i0 _ 4 32 Try.underlying23 hi0 hz0 hz1 hz2 rfl (by omega) u4 k os rfl (HT.out.2.1.alloc _) ⟨W5.heap.size, 0, none⟩ 1 1 [.int .i64 (on), .int .i64 (3), .int .i64 (key), .int .i64 (val % (s.vals.length : Int))] rfl rfl (news_blk (Blk.new _ _ _)) (by simp [Value.oneCell']) (by unfold maxLen; omega) (by omega) (by simp; omega) ?_; intro v' w3 hown' hgrow _)
          exact ⟨⟨k + 1, _, _, by omega, by go_num, Lib.hid (HCL.out _ _ _ hgrow hown')⟩, by simp [intOf]; omega⟩
      case' k3 =>
        obtain ⟨h0, rfl⟩ := dd
        have HB := Lib.hid (show modB s ⟨on, 4, key, val⟩ = ⟨on, 4, key, val % (s.vals.length : Int)⟩ by unfold modB; rw [if_pos ⟨h0, by simp⟩])
        have g0 : (0 < (s.vals.length : Int)) = True := eq_true (by omega)
        have g1 : 0 < (s.vals.length : Int) := by omega
        clear h0
        have HJ1 := Lib.hid (HK.out.hand hsz ⟨on, 4, key, val % (s.vals.length : Int)⟩)
        rw [← HP.out, ← HOS.out, ← HSS.out] at HJ1
        go_wp2_with fail
        refine (specMod_calls val (s.vals.length : Int) _ g1 (by omega)).mono ?_
        rintro e Wm ⟨rfl, rfl⟩
        go_upto_region 10 with (fail)
        generalize (wr.alloc (Obj.cells #[.int .i64 on, .int .i64 4, .int .i64 key, .int .i64 (val % (s.vals.length : Int))] 28)) = W1 at *
        clear q0 q1 q2 q3 blt bb0 bb1 fbb g0
        obtain ⟨f0, f1, f2, f3, f4, f5, ff1, ff2⟩ := HJ1.out.cells
        simp only at f0 f1 f2 f3
        have HM := Lib.hid (may_calls s.vals (zi s.row) _ _ on 4 key (val % (s.vals.length : Int)) W1 HJ1.out.lz.vs HJ1.out.lz.rs (by unfold zi; rw [List.length_map]; omega) (by omega))
        obtain ⟨mz, hmz⟩ : ∃ mz, mz = mayZ s.vals (zi s.row) ⟨on, 4, key, val % (s.vals.length : Int)⟩ := ⟨_, rfl⟩
        rw [← hmz] at HM
        have HMZ := Lib.hid hmz.symm
        clear hmz
        go_wp2_with fail
        refine HM.out.mono ?_
        rintro e W2 ⟨rfl, B2⟩
        have HJ2 := Lib.hid (HJ1.out.below B2)
        clear f0 f1 f2 f3 f4 f5 ff1 ff2 B2 HM HJ1 HJ
        obtain ⟨f0, f1, f2, f3, f4, f5, ff1, ff2⟩ := HJ2.out.cells
        simp only at f0 f1 f2 f3
        rcases mz with _ | _
        · go_upto_region 12 with (fail)
          have HF := Lib.hid (show fitB s ⟨on, 4, key, val⟩ = ⟨0, 5, 0, 0⟩ by unfold fitB; rw [HB.out, if_neg (by rw [HMZ.out]; simp)])
          have HJ3 := Lib.hid HJ2.out.idle
          generalize ((((W2.setCell ⟨wr.heap.size, 0, none⟩ (.int .i64 0)).setCell ⟨wr.heap.size, 1, none⟩ (.int .i64 5)).setCell ⟨wr.heap.size, 2, none⟩ (.int .i64 0)).setCell ⟨wr.heap.size, 3, none⟩ (.int .i64 0)) = W3 at *
          clear f0 f1 f2 f3 f4 f5 ff1 ff2 HJ2
          obtain ⟨f0, f1, f2, f3, f4, f5, ff1, ff2⟩ := HJ3.out.cells
          simp only at f0 f1 f2 f3
          have HD := Lib.hid (zdo_calls s _ _ (0) (5) (0) (0) W3 HJ3.out.lz.vs HJ3.out.lz.rs (by omega) (by omega) HRL.out (by have := fitB_may s ⟨on, 4, key, val⟩; rw [HF.out] at this; exact this))
          go_wp2_with fail
          (with_reducible refine HD.out.mono ?_)
          rintro e W4 ⟨A4, c4, A5, c5, sn, rfl, n4, n5, b4⟩
          have HN := Lib.hid (And.intro n4 n5)
          have HJ4 := Lib.hid (HJ3.out.below b4)
          clear f0 f1 f2 f3 f4 f5 ff1 ff2 HJ3 HD n4 n5 b4
          obtain ⟨f0, f1, f2, f3, f4, f5, ff1, ff2⟩ := HJ4.out.cells
          simp only at f0 f1 f2 f3
          generalize hds : doL s ⟨0, 5, 0, 0⟩ = s' at *
          have HDS := Lib.hid hds
          clear hds
          have HT := Lib.hid (HJ4.out.stored (.slice A4 s'.vals.length c4) (.slice A5 (zi s'.row).length c5))
          have HCL := Lib.hid (fit_close HP.out HOS.out HSS.out HF.out HDS.out HA.out HJ4.out HN.out.1 HN.out.2)
          go_upto_region 13 with (fail)
          generalize ((W4.setCell ⟨w.heap.size, 0, none⟩ (.slice A4 s'.vals.length c4)).setCell ⟨w.heap.size, 1, none⟩ (.slice A5 (zi s'.row).length c5)) = W5 at *
          clear f0 f1 f2 f3 f4 f5 ff1 ff2
          have f0 := HT.out.2.2.2.2.2.cell 0
          have f1 := HT.out.2.2.2.2.2.cell 1
          have f2 := HT.out.2.2.2.2.2.cell 2
          have f3 := HT.out.2.2.2.2.2.cell 3
          simp only [List.getElem?_toArray, List.getElem?_cons_succ, List.getElem?_cons_zero] at f0 f1 f2 f3
          have z5 : w.heap.size + 1 ≤ W5.heap.size := HT.out.1.lt
          go_wp2_with (at_builtin; refine wpList_append_own _ rfl (.tmp 64) (.tmp 66) 23 rfl (w.heap.size + 1) 28 i0 _ 4 32 Try.underlying23 hi0 hz0 hz1 hz2 rfl (by omega) u4 k os rfl (HT.out.2.1.alloc _) ⟨W5.heap.size, 0, none⟩ 1 1 [.int .i64 (0), .int .i64 (5), .int .i64 (0), .int .i64 (0)] rfl rfl (news_blk (Blk.new _ _ _)) (by simp [Value.oneCell']) (by unfold maxLen; omega) (by omega) (by simp; omega) ?_; intro v' w3 hown' hgrow _)
          exact ⟨⟨k + 1, _, _, by omega, by go_num, Lib.hid (HCL.out _ _ _ hgrow hown')⟩, by simp [intOf]; omega⟩
        · go_upto_region 12 with (fail)
          have HF := Lib.hid (show fitB s ⟨on, 4, key, val⟩ = ⟨on, 4, key, val % (s.vals.length : Int)⟩ by unfold fitB; rw [HB.out, if_pos HMZ.out])
          have HJ3 := HJ2
          clear f0 f1 f2 f3 f4 f5 ff1 ff2 HJ2
          obtain ⟨f0, f1, f2, f3, f4, f5, ff1, ff2⟩ := HJ3.out.cells
          simp only at f0 f1 f2 f3
          have HD := Lib.hid (zdo_calls s _ _ (on) (4) (key) (val % (s.vals.length : Int)) W2 HJ3.out.lz.vs HJ3.out.lz.rs (by omega) (by omega) HRL.out (by have := fitB_may s ⟨on, 4, key, val⟩; rw [HF.out] at this; exact this))
          go_wp2_with fail
          (with_reducible refine HD.out.mono ?_)
          rintro e W4 ⟨A4, c4, A5, c5, sn, rfl, n4, n5, b4⟩
          have HN := Lib.hid (And.intro n4 n5)
          have HJ4 := Lib.hid (HJ3.out.below b4)
          clear f0 f1 f2 f3 f4 f5 ff1 ff2 HJ3 HD n4 n5 b4
          obtain ⟨f0, f1, f2, f3, f4, f5, ff1, ff2⟩ := HJ4.out.cells
          simp only at f0 f1 f2 f3
          generalize hds : doL s ⟨on, 4, key, val % (s.vals.length : Int)⟩ = s' at *
          have HDS := Lib.hid hds
          clear hds
          have HT := Lib.hid (HJ4.out.stored (.slice A4 s'.vals.length c4) (.slice A5 (zi s'.row).length c5))
          have HCL := Lib.hid (fit_close HP.out HOS.out HSS.out HF.out HDS.out HA.out HJ4.out HN.out.1 HN.out.2)
          go_upto_region 13 with (fail)
          generalize ((W4.setCell ⟨w.heap.size, 0, none⟩ (.slice A4 s'.vals.length c4)).setCell ⟨w.heap.size, 1, none⟩ (.slice A5 (zi s'.row).length c5)) = W5 at *
          clear f0 f1 f2 f3 f4 f5 ff1 ff2
          have f0 := HT.out.2.2.2.2.2.cell 0
          have f1 := HT.out.2.2.2.2.2.cell 1
          have f2 := HT.out.2.2.2.2.2.cell 2
          have f3 := HT.out.2.2.2.2.2.cell 3
          simp only [List.getElem?_toArray, List.getElem?_cons_succ, List.getElem?_cons_zero] at f0 f1 f2 f3
          have z5 : w.heap.size + 1 ≤ W5.heap.size := HT.out.1.lt
          go_wp2_with (at_builtin; refine wpList_append_own _ rfl (.tmp 64) (.tmp 66) 23 rfl (w.heap.size + 1) 28 i0 _ 4 32 Try.underlying23 hi0 hz0 hz1 hz2 rfl (by omega) u4 k os rfl (HT.out.2.1.alloc _) ⟨W5.heap.size, 0, none⟩ 1 1 [.int .i64 (on), .int .i64 (4), .int .i64 (key), .int .i64 (val % (s.vals.length : Int))] rfl rfl (news_blk (Blk.new _ _ _)) (by simp [Value.oneCell']) (by unfold maxLen; omega) (by omega) (by simp; omega) ?_; intro v' w3 hown' hgrow _)
          exact ⟨⟨k + 1, _, _, by omega, by go_num, Lib.hid (HCL.out _ _ _ hgrow hown')⟩, by simp [intOf]; omega⟩
      case' k4 =>
        obtain ⟨h0, rfl⟩ := dd
        have HB := Lib.hid (show modB s ⟨on, 7, key, val⟩ = ⟨on, 7, key, val % (s.vals.length : Int)⟩ by unfold modB; rw [if_pos ⟨h0, by simp⟩])
        have g0 : (0 < (s.vals.length : Int)) = True := eq_true (by omega)
        have g1 : 0 < (s.vals.length : Int) := by omega
        clear h0
        have HJ1 := Lib.hid (HK.out.hand hsz ⟨on, 7, key, val % (s.vals.length : Int)⟩)
        rw [← HP.out, ← HOS.out, ← HSS.out] at HJ1
        go_wp2_with fail
        refine (specMod_calls val (s.vals.length : Int) _ g1 (by omega)).mono ?_
        rintro e Wm ⟨rfl, rfl⟩
        go_upto_region 10 with (fail)
        generalize (wr.alloc (Obj.cells #[.int .i64 on, .int .i64 7, .int .i64 key, .int .i64 (val % (s.vals.length : Int))] 28)) = W1 at *
        clear q0 q1 q2 q3 blt bb0 bb1 fbb g0
        obtain ⟨f0, f1, f2, f3, f4, f5, ff1, ff2⟩ := HJ1.out.cells
        simp only at f0 f1 f2 f3
        have HM := Lib.hid (may_calls s.vals (zi s.row) _ _ on 7 key (val % (s.vals.length : Int)) W1 HJ1.out.lz.vs HJ1.out.lz.rs (by unfold zi; rw [List.length_map]; omega) (by omega))
        obtain ⟨mz, hmz⟩ : ∃ mz, mz = mayZ s.vals (zi s.row) ⟨on, 7, key, val % (s.vals.length : Int)⟩ := ⟨_, rfl⟩
        rw [← hmz] at HM
        have HMZ := Lib.hid hmz.symm
        clear hmz
        go_wp2_with fail
        refine HM.out.mono ?_
        rintro e W2 ⟨rfl, B2⟩
        have HJ2 := Lib.hid (HJ1.out.below B2)
        clear f0 f1 f2 f3 f4 f5 ff1 ff2 B2 HM HJ1 HJ
        obtain ⟨f0, f1, f2, f3, f4, f5, ff1, ff2⟩ := HJ2.out.cells
        simp only at f0 f1 f2 f3
        rcases mz with _ | _
        · go_upto_region 12 with (fail)
          have HF := Lib.hid (show fitB s ⟨on, 7, key, val⟩ = ⟨0, 5, 0, 0⟩ by unfold fitB; rw [HB.out, if_neg (by rw [HMZ.out]; simp)])
          have HJ3 := Lib.hid HJ2.out.idle
          generalize ((((W2.setCell ⟨wr.heap.size, 0, none⟩ (.int .i64 0)).setCell ⟨wr.heap.size, 1, none⟩ (.int .i64 5)).setCell ⟨wr.heap.size, 2, none⟩ (.int .i64 0)).setCell ⟨wr.heap.size, 3, none⟩ (.int .i64 0)) = W3 at *
          clear f0 f1 f2 f3 f4 f5 ff1 ff2 HJ2
          obtain ⟨f0, f1, f2, f3, f4, f5, ff1, ff2⟩ := HJ3.out.cells
          simp only at f0 f1 f2 f3
          have HD := Lib.hid (zdo_calls s _ _ (0) (5) (0) (0) W3 HJ3.out.lz.vs HJ3.out.lz.rs (by omega) (by omega) HRL.out (by have := fitB_may s ⟨on, 7, key, val⟩; rw [HF.out] at this; exact this))
          go_wp2_with fail
          (with_reducible refine HD.out.mono ?_)
          rintro e W4 ⟨A4, c4, A5, c5, sn, rfl, n4, n5, b4⟩
          have HN := Lib.hid (And.intro n4 n5)
          have HJ4 := Lib.hid (HJ3.out.below b4)
          clear f0 f1 f2 f3 f4 f5 ff1 ff2 HJ3 HD n4 n5 b4
          obtain ⟨f0, f1, f2, f3, f4, f5, ff1, ff2⟩ := HJ4.out.cells
          simp only at f0 f1 f2 f3
          generalize hds : doL s ⟨0, 5, 0, 0⟩ = s' at *
          have HDS := Lib.hid hds
          clear hds
          have HT := Lib.hid (HJ4.out.stored (.slice A4 s'.vals.length c4) (.slice A5 (zi s'.row).length c5))
          have HCL := Lib.hid (fit_close HP.out HOS.out HSS.out HF.out HDS.out HA.out HJ4.out HN.out.1 HN.out.2)
          go_upto_region 13 with (fail)
          generalize ((W4.setCell ⟨w.heap.size, 0, none⟩ (.slice A4 s'.vals.length c4)).setCell ⟨w.heap.size, 1, none⟩ (.slice A5 (zi s'.row).length c5)) = W5 at *
          clear f0 f1 f2 f3 f4 f5 ff1 ff2
          have f0 := HT.out.2.2.2.2.2.cell 0
          have f1 := HT.out.2.2.2.2.2.cell 1
          have f2 := HT.out.2.2.2.2.2.cell 2
          have f3 := HT.out.2.2.2.2.2.cell 3
          simp only [List.getElem?_toArray, List.getElem?_cons_succ, List.getElem?_cons_zero] at f0 f1 f2 f3
          have z5 : w.heap.size + 1 ≤ W5.heap.size := HT.out.1.lt
          go_wp2_with (at_builtin; refine wpList_append_own _ rfl (.tmp 64) (.tmp 66) 23 rfl (w.heap.size + 1) 28 i0 _ 4 32 Try.underlying23 hi0 hz0 hz1 hz2 rfl (by omega) u4 k os rfl (HT.out.2.1.alloc _) ⟨W5.heap.size, 0, none⟩ 1 1 [.int .i64 (0), .int .i64 (5), .int .i64 (0), .int .i64 (0)] rfl rfl (news_blk (Blk.new _ _ _)) (by simp [Value.oneCell']) (by unfold maxLen; omega) (by omega) (by simp; omega) ?_; intro v' w3 hown' hgrow _)
          exact ⟨⟨k + 1, _, _, by omega, by go_num, Lib.hid (HCL.out _ _ _ hgrow hown')⟩, by simp [intOf]; omega⟩
        · go_upto_region 12 with (fail)
          have HF := Lib.hid (show fitB s ⟨on, 7, key, val⟩ = ⟨on, 7, key, val % (s.vals.length : Int)⟩ by unfold fitB; rw [HB.out, if_pos HMZ.out])
          have HJ3 := HJ2
          clear f0 f1 f2 f3 f4 f5 ff1 ff2 HJ2
          obtain ⟨f0, f1, f2, f3, f4, f5, ff1, ff2⟩ := HJ3.out.cells
          simp only at f0 f1 f2 f3
          have HD := Lib.hid (zdo_calls s _ _ (on) (7) (key) (val % (s.vals.length : Int)) W2 HJ3.out.lz.vs HJ3.out.lz.rs (by omega) (by omega) HRL.out (by have := fitB_may s ⟨on, 7, key, val⟩; rw [HF.out] at this; exact this))
          go_wp2_with fail
          (with_reducible refine HD.out.mono ?_)
          rintro e W4 ⟨A4, c4, A5, c5, sn, rfl, n4, n5, b4⟩
          have HN := Lib.hid (And.intro n4 n5)
          have HJ4 := Lib.hid (HJ3.out.below b4)
          clear f0 f1 f2 f3 f4 f5 ff1 ff2 HJ3 HD n4 n5 b4
          obtain ⟨f0, f1, f2, f3, f4, f5, ff1, ff2⟩ := HJ4.out.cells
          simp only at f0 f1 f2 f3
          generalize hds : doL s ⟨on, 7, key, val % (s.vals.length : Int)⟩ = s' at *
          have HDS := Lib.hid hds
          clear hds
          have HT := Lib.hid (HJ4.out.stored (.slice A4 s'.vals.length c4) (.slice A5 (zi s'.row).length c5))
          have HCL := Lib.hid (fit_close HP.out HOS.out HSS.out HF.out HDS.out HA.out HJ4.out HN.out.1 HN.out.2)
          go_upto_region 13 with (fail)
          generalize ((W4.setCell ⟨w.heap.size, 0, none⟩ (.slice A4 s'.vals.length c4)).setCell ⟨w.heap.size, 1, none⟩ (.slice A5 (zi s'.row).length c5)) = W5 at *
          clear f0 f1 f2 f3 f4 f5 ff1 ff2
          have f0 := HT.out.2.2.2.2.2.cell 0
          have f1 := HT.out.2.2.2.2.2.cell 1
          have f2 := HT.out.2.2.2.2.2.cell 2
          have f3 := HT.out.2.2.2.2.2.cell 3
          simp only [List.getElem?_toArray, List.getElem?_cons_succ, List.getElem?_cons_zero] at f0 f1 f2 f3
          have z5 : w.heap.size + 1 ≤ W5.heap.size := HT.out.1.lt
          go_wp2_with (at_builtin; refine wpList_append_own _ rfl (.tmp 64) (.tmp 66) 23 rfl (w.heap.size + 1) 28 i0 _ 4 32 Try.underlying23 hi0 hz0 hz1 hz2 rfl (by omega) u4 k os rfl (HT.out.2.1.alloc _) ⟨W5.heap.size, 0, none⟩ 1 1 [.int .i64 (on), .int .i64 (7), .int .i64 (key), .int .i64 (val % (s.vals.length : Int))] rfl rfl (news_blk (Blk.new _ _ _)) (by simp [Value.oneCell']) (by unfold maxLen; omega) (by omega) (by simp; omega) ?_; intro v' w3 hown' hgrow _)
          exact ⟨⟨k + 1, _, _, by omega, by go_num, Lib.hid (HCL.out _ _ _ hgrow hown')⟩, by simp [intOf]; omega⟩
      case' k5 =>
        obtain ⟨h0, rfl⟩ := dd
        have HB := Lib.hid (show modB s ⟨on, 8, key, val⟩ = ⟨on, 8, key, val % (s.vals.length : Int)⟩ by unfold modB; rw [if_pos ⟨h0, by simp⟩])
        have g0 : (0 < (s.vals.length : Int)) = True := eq_true (by omega)
        have g1 : 0 < (s.vals.length : Int) := by omega
        clear h0
        have HJ1 := Lib.hid (HK.out.hand hsz ⟨on, 8, key, val % (s.vals.length : Int)⟩)
        rw [← HP.out, ← HOS.out, ← HSS.out] at HJ1
        go_wp2_with fail
        refine (specMod_calls val (s.vals.length : Int) _ g1 (by omega)).mono ?_
        rintro e Wm ⟨rfl, rfl⟩
        go_upto_region 10 with (fail)
        generalize (wr.alloc (Obj.cells #[.int .i64 on, .int .i64 8, .int .i64 key, .int .i64 (val % (s.vals.length : Int))] 28)) = W1 at *
        clear q0 q1 q2 q3 blt bb0 bb1 fbb g0
        obtain ⟨f0, f1, f2, f3, f4, f5, ff1, ff2⟩ := HJ1.out.cells
        simp only at f0 f1 f2 f3
        have HM := Lib.hid (may_calls s.vals (zi s.row) _ _ on 8 key (val % (s.vals.length : Int)) W1 HJ1.out.lz.vs HJ1.out.lz.rs (by unfold zi; rw [List.length_map]; omega) (by omega))
        obtain ⟨mz, hmz⟩ : ∃ mz, mz = mayZ s.vals (zi s.row) ⟨on, 8, key, val % (s.vals.length : Int)⟩ := ⟨_, rfl⟩
        rw [← hmz] at HM
        have HMZ := Lib.hid hmz.symm
        clear hmz
        go_wp2_with fail
        refine HM.out.mono ?_
        rintro e W2 ⟨rfl, B2⟩
        have HJ2 := Lib.hid (HJ1.out.below B2)
        clear f0 f1 f2 f3 f4 f5 ff1 ff2 B2 HM HJ1 HJ
        obtain ⟨f0, f1, f2, f3, f4, f5, ff1, ff2⟩ := HJ2.out.cells
        simp only at f0 f1 f2 f3
        rcases mz with _ | _
        · go_upto_region 12 with (fail)
          have HF := Lib.hid (show fitB s ⟨on, 8, key, val⟩ = ⟨0, 5, 0, 0⟩ by unfold fitB; rw [HB.out, if_neg (by rw [HMZ.out]; simp)])
          have HJ3 := Lib.hid HJ2.out.idle
          generalize ((((W2.setCell ⟨wr.heap.size, 0, none⟩ (.int .i64 0)).setCell ⟨wr.heap.size, 1, none⟩ (.int .i64 5)).setCell ⟨wr.heap.size, 2, none⟩ (.int .i64 0)).setCell ⟨wr.heap.size, 3, none⟩ (.int .i64 0)) = W3 at *
          clear f0 f1 f2 f3 f4 f5 ff1 ff2 HJ2
          obtain ⟨f0, f1, f2, f3, f4, f5, ff1, ff2⟩ := HJ3.out.cells
          simp only at f0 f1 f2 f3
          have HD := Lib.hid (zdo_calls s _ _ (0) (5) (0) (0) W3 HJ3.out.lz.vs HJ3.out.lz.rs (by omega) (by omega) HRL.out (by have := fitB_may s ⟨on, 8, key, val⟩; rw [HF.out] at this; exact this))
          go_wp2_with fail
          (with_reducible refine HD.out.mono ?_)
          rintro e W4 ⟨A4, c4, A5, c5, sn, rfl, n4, n5, b4⟩
          have HN := Lib.hid (And.intro n4 n5)
          have HJ4 := Lib.hid (HJ3.out.below b4)
          clear f0 f1 f2 f3 f4 f5 ff1 ff2 HJ3 HD n4 n5 b4
          obtain ⟨f0, f1, f2, f3, f4, f5, ff1, ff2⟩ := HJ4.out.cells
          simp only at f0 f1 f2 f3
          generalize hds : doL s ⟨0, 5, 0, 0⟩ = s' at *
          have HDS := Lib.hid hds
          clear hds
          have HT := Lib.hid (HJ4.out.stored (.slice A4 s'.vals.length c4) (.slice A5 (zi s'.row).length c5))
          have HCL := Lib.hid (fit_close HP.out HOS.out HSS.out HF.out HDS.out HA.out HJ4.out HN.out.1 HN.out.2)
          go_upto_region 13 with (fail)
          generalize ((W4.setCell ⟨w.heap.size, 0, none⟩ (.slice A4 s'.vals.length c4)).setCell ⟨w.heap.size, 1, none⟩ (.slice A5 (zi s'.row).length c5)) = W5 at *
          clear f0 f1 f2 f3 f4 f5 ff1 ff2
          have f0 := HT.out.2.2.2.2.2.cell 0
          have f1 := HT.out.2.2.2.2.2.cell 1
          have f2 := HT.out.2.2.2.2.2.cell 2
          have f3 := HT.out.2.2.2.2.2.cell 3
          simp only [List.getElem?_toArray, List.getElem?_cons_succ, List.getElem?_cons_zero] at f0 f1 f2 f3
          have z5 : w.heap.size + 1 ≤ W5.heap.size := HT.out.1.lt
          go_wp2_with (at_builtin; refine wpList_append_own _ rfl (.tmp 64) (.tmp 66) 23 rfl (w.heap.size + 1) 28 i0 _ 4 32 Try.underlying23 hi0 hz0 hz1 hz2 rfl (by omega) u4 k os rfl (HT.out.2.1.alloc _) ⟨W5.heap.size, 0, none⟩ 1 1 [.int .i64 (0), .int .i64 (5), .int .i64 (0), .int .i64 (0)] rfl rfl (news_blk (Blk.new _ _ _)) (by simp [Value.oneCell']) (by unfold maxLen; omega) (by omega) (by simp; omega) ?_; intro v' w3 hown' hgrow _)
          exact ⟨⟨k + 1, _, _, by omega, by go_num, Lib.hid (HCL.out _ _ _ hgrow hown')⟩, by simp [intOf]; omega⟩
        · go_upto_region 12 with (fail)
          have HF := Lib.hid (show fitB s ⟨on, 8, key, val⟩ = ⟨on, 8, key, val % (s.vals.length : Int)⟩ by unfold fitB; rw [HB.out, if_pos HMZ.out])
          have HJ3 := HJ2
          clear f0 f1 f2 f3 f4 f5 ff1 ff2 HJ2
          obtain ⟨f0, f1, f2, f3, f4, f5, ff1, ff2⟩ := HJ3.out.cells
          simp only at f0 f1 f2 f3
          have HD := Lib.hid (zdo_calls s _ _ (on) (8) (key) (val % (s.vals.length : Int)) W2 HJ3.out.lz.vs HJ3.out.lz.rs (by omega) (by omega) HRL.out (by have := fitB_may s ⟨on, 8, key, val⟩; rw [HF.out] at this; exact this))
          go_wp2_with fail
          (with_reducible refine HD.out.mono ?_)
          rintro e W4 ⟨A4, c4, A5, c5, sn, rfl, n4, n5, b4⟩
          have HN := Lib.hid (And.intro n4 n5)
          have HJ4 := Lib.hid (HJ3.out.below b4)
          clear f0 f1 f2 f3 f4 f5 ff1 ff2 HJ3 HD n4 n5 b4
          obtain ⟨f0, f1, f2, f3, f4, f5, ff1, ff2⟩ := HJ4.out.cells
          simp only at f0 f1 f2 f3
          generalize hds : doL s ⟨on, 8, key, val % (s.vals.length : Int)⟩ = s' at *
          have HDS := Lib.hid hds
          clear hds
          have HT := Lib.hid (HJ4.out.stored (.slice A4 s'.vals.length c4) (.slice A5 (zi s'.row).length c5))
          have HCL := Lib.hid (fit_close HP.out HOS.out HSS.out HF.out HDS.out HA.out HJ4.out HN.out.1 HN.out.2)
          go_upto_region 13 with (fail)
          generalize ((W4.setCell ⟨w.heap.size, 0, none⟩ (.slice A4 s'.vals.length c4)).setCell ⟨w.heap.size, 1, none⟩ (.slice A5 (zi s'.row).length c5)) = W5 at *
          clear f0 f1 f2 f3 f4 f5 ff1 ff2
          have f0 := HT.out.2.2.2.2.2.cell 0
          have f1 := HT.out.2.2.2.2.2.cell 1
          have f2 := HT.out.2.2.2.2.2.cell 2
          have f3 := HT.out.2.2.2.2.2.cell 3
          simp only [List.getElem?_toArray, List.getElem?_cons_succ, List.getElem?_cons_zero] at f0 f1 f2 f3
          have z5 : w.heap.size + 1 ≤ W5.heap.size := HT.out.1.lt
          go_wp2_with (at_builtin; refine wpList_append_own _ rfl (.tmp 64) (.tmp 66) 23 rfl (w.heap.size + 1) 28 i0 _ 4 32 Try.underlying23 hi0 hz0 hz1 hz2 rfl (by omega) u4 k os rfl (HT.out.2.1.alloc _) ⟨W5.heap.size, 0, none⟩ 1 1 [.int .i64 (on), .int .i64 (8), .int .i64 (key), .int .i64 (val % (s.vals.length : Int))] rfl rfl (news_blk (Blk.new _ _ _)) (by simp [Value.oneCell']) (by unfold maxLen; omega) (by omega) (by simp; omega) ?_; intro v' w3 hown' hgrow _)
          exact ⟨⟨k + 1, _, _, by omega, by go_num, Lib.hid (HCL.out _ _ _ hgrow hown')⟩, by simp [intOf]; omega⟩
      case' k6 =>
        obtain ⟨h0, e2, e3, e4, e7, e8⟩ := dd
        have HB := Lib.hid (show modB s ⟨on, act, key, val⟩ = ⟨on, act, key, val⟩ by simp only [beq_eq_false_iff_ne] at *; unfold modB; rw [if_neg (by simp only; omega)])
        have g0 : (0 < (s.vals.length : Int)) = True := eq_true (by omega)
        have g01 : decide (0 < (s.vals.length : Int)) = true := decide_eq_true (by omega)
        have g03 : 0 < (s.vals.length : Int) := by omega
        have g04 : 0 < s.vals.length := by omega
        have g05 : decide (0 < s.vals.length) = true := decide_eq_true (by omega)
        clear h0
        have HJ1 := Lib.hid (HK.out.hand hsz ⟨on, act, key, val⟩)
        rw [← HP.out, ← HOS.out, ← HSS.out] at HJ1
        go_upto_region 10 with (fail)
        generalize (wr.alloc (Obj.cells #[.int .i64 on, .int .i64 act, .int .i64 key, .int .i64 (val)] 28)) = W1 at *
        clear q0 q1 q2 q3 blt bb0 bb1 fbb g0 g01 g03 g04 g05
        obtain ⟨f0, f1, f2, f3, f4, f5, ff1, ff2⟩ := HJ1.out.cells
        simp only at f0 f1 f2 f3
        have HM := Lib.hid (may_calls s.vals (zi s.row) _ _ on act key (val) W1 HJ1.out.lz.vs HJ1.out.lz.rs (by unfold zi; rw [List.length_map]; omega) (by omega))
        obtain ⟨mz, hmz⟩ : ∃ mz, mz = mayZ s.vals (zi s.row) ⟨on, act, key, val⟩ := ⟨_, rfl⟩
        rw [← hmz] at HM
        have HMZ := Lib.hid hmz.symm
        clear hmz
        go_wp2_with fail
        refine HM.out.mono ?_
        rintro e W2 ⟨rfl, B2⟩
        have HJ2 := Lib.hid (HJ1.out.below B2)
        clear f0 f1 f2 f3 f4 f5 ff1 ff2 B2 HM HJ1 HJ
        obtain ⟨f0, f1, f2, f3, f4, f5, ff1, ff2⟩ := HJ2.out.cells
        simp only at f0 f1 f2 f3
        rcases mz with _ | _
        · go_upto_region 12 with (fail)
          have HF := Lib.hid (show fitB s ⟨on, act, key, val⟩ = ⟨0, 5, 0, 0⟩ by unfold fitB; rw [HB.out, if_neg (by rw [HMZ.out]; simp)])
          have HJ3 := Lib.hid HJ2.out.idle
          generalize ((((W2.setCell ⟨wr.heap.size, 0, none⟩ (.int .i64 0)).setCell ⟨wr.heap.size, 1, none⟩ (.int .i64 5)).setCell ⟨wr.heap.size, 2, none⟩ (.int .i64 0)).setCell ⟨wr.heap.size, 3, none⟩ (.int .i64 0)) = W3 at *
          clear f0 f1 f2 f3 f4 f5 ff1 ff2 HJ2
          obtain ⟨f0, f1, f2, f3, f4, f5, ff1, ff2⟩ := HJ3.out.cells
          simp only at f0 f1 f2 f3
          have HD := Lib.hid (zdo_calls s _ _ (0) (5) (0) (0) W3 HJ3.out.lz.vs HJ3.out.lz.rs (by omega) (by omega) HRL.out (by have := fitB_may s ⟨on, act, key, val⟩; rw [HF.out] at this; exact this))
          go_wp2_with fail
          (with_reducible refine HD.out.mono ?_)
          rintro e W4 ⟨A4, c4, A5, c5, sn, rfl, n4, n5, b4⟩
          have HN := Lib.hid (And.intro n4 n5)
          have HJ4 := Lib.hid (HJ3.out.below b4)
          clear f0 f1 f2 f3 f4 f5 ff1 ff2 HJ3 HD n4 n5 b4
          obtain ⟨f0, f1, f2, f3, f4, f5, ff1, ff2⟩ := HJ4.out.cells
          simp only at f0 f1 f2 f3
          generalize hds : doL s ⟨0, 5, 0, 0⟩ = s' at *
          have HDS := Lib.hid hds
          clear hds
          have HT := Lib.hid (HJ4.out.stored (.slice A4 s'.vals.length c4) (.slice A5 (zi s'.row).length c5))
          have HCL := Lib.hid (fit_close HP.out HOS.out HSS.out HF.out HDS.out HA.out HJ4.out HN.out.1 HN.out.2)
          go_upto_region 13 with (fail)
          generalize ((W4.setCell ⟨w.heap.size, 0, none⟩ (.slice A4 s'.vals.length c4)).setCell ⟨w.heap.size, 1, none⟩ (.slice A5 (zi s'.row).length c5)) = W5 at *
          clear f0 f1 f2 f3 f4 f5 ff1 ff2
          have f0 := HT.out.2.2.2.2.2.cell 0
          have f1 := HT.out.2.2.2.2.2.cell 1
          have f2 := HT.out.2.2.2.2.2.cell 2
          have f3 := HT.out.2.2.2.2.2.cell 3
          simp only [List.getElem?_toArray, List.getElem?_cons_succ, List.getElem?_cons_zero] at f0 f1 f2 f3
          have z5 : w.heap.size + 1 ≤ W5.heap.size := HT.out.1.lt
          go_wp2_with (at_builtin; refine wpList_append_own _ rfl (.tmp 64) (.tmp 66) 23 rfl (w.heap.size + 1) 28 i0 _ 4 32 Try.underlying23 hi0 hz0 hz1 hz2 rfl (by omega) u4 k os rfl (HT.out.2.1.alloc _) ⟨W5.heap.size, 0, none⟩ 1 1 [.int .i64 (0), .int .i64 (5), .int .i64 (0), .int .i64 (0)] rfl rfl (news_blk (Blk.new _ _ _)) (by simp [Value.oneCell']) (by unfold maxLen; omega) (by omega) (by simp; omega) ?_; intro v' w3 hown' hgrow _)
          exact ⟨⟨k + 1, _, _, by omega, by go_num, Lib.hid (HCL.out _ _ _ hgrow hown')⟩, by simp [intOf]; omega⟩
        · go_upto_region 12 with (fail)
          have HF := Lib.hid (show fitB s ⟨on, act, key, val⟩ = ⟨on, act, key, val⟩ by unfold fitB; rw [HB.out, if_pos HMZ.out])
          have HJ3 := HJ2
          clear f0 f1 f2 f3 f4 f5 ff1 ff2 HJ2
          obtain ⟨f0, f1, f2, f3, f4, f5, ff1, ff2⟩ := HJ3.out.cells
          simp only at f0 f1 f2 f3
          have HD := Lib.hid (zdo_calls s _ _ (on) (act) (key) (val) W2 HJ3.out.lz.vs HJ3.out.lz.rs (by omega) (by omega) HRL.out (by have := fitB_may s ⟨on, act, key, val⟩; rw [HF.out] at this; exact this))
          go_wp2_with fail
          (with_reducible refine HD.out.mono ?_)
          rintro e W4 ⟨A4, c4, A5, c5, sn, rfl, n4, n5, b4⟩
          have HN := Lib.hid (And.intro n4 n5)
          have HJ4 := Lib.hid (HJ3.out.below b4)
          clear f0 f1 f2 f3 f4 f5 ff1 ff2 HJ3 HD n4 n5 b4
          obtain ⟨f0, f1, f2, f3, f4, f5, ff1, ff2⟩ := HJ4.out.cells
          simp only at f0 f1 f2 f3
          generalize hds : doL s ⟨on, act, key, val⟩ = s' at *
          have HDS := Lib.hid hds
          clear hds
          have HT := Lib.hid (HJ4.out.stored (.slice A4 s'.vals.length c4) (.slice A5 (zi s'.row).length c5))
          have HCL := Lib.hid (fit_close HP.out HOS.out HSS.out HF.out HDS.out HA.out HJ4.out HN.out.1 HN.out.2)
          go_upto_region 13 with (fail)
          generalize ((W4.setCell ⟨w.heap.size, 0, none⟩ (.slice A4 s'.vals.length c4)).setCell ⟨w.heap.size, 1, none⟩ (.slice A5 (zi s'.row).length c5)) = W5 at *
          clear f0 f1 f2 f3 f4 f5 ff1 ff2
          have f0 := HT.out.2.2.2.2.2.cell 0
          have f1 := HT.out.2.2.2.2.2.cell 1
          have f2 := HT.out.2.2.2.2.2.cell 2
          have f3 := HT.out.2.2.2.2.2.cell 3
          simp only [List.getElem?_toArray, List.getElem?_cons_succ, List.getElem?_cons_zero] at f0 f1 f2 f3
          have z5 : w.heap.size + 1 ≤ W5.heap.size := HT.out.1.lt
          go_wp2_with (at_builtin; refine wpList_append_own _ rfl (.tmp 64) (.tmp 66) 23 rfl (w.heap.size + 1) 28 i0 _ 4 32 Try.underlying23 hi0 hz0 hz1 hz2 rfl (by omega) u4 k os rfl (HT.out.2.1.alloc _) ⟨W5.heap.size, 0, none⟩ 1 1 [.int .i64 (on), .int .i64 (act), .int .i64 (key), .int .i64 (val)] rfl rfl (news_blk (Blk.new _ _ _)) (by simp [Value.oneCell']) (by unfold maxLen; omega) (by omega) (by simp; omega) ?_; intro v' w3 hown' hgrow _)
          exact ⟨⟨k + 1, _, _, by omega, by go_num, Lib.hid (HCL.out _ _ _ hgrow hown')⟩, by simp [intOf]; omega⟩
    · have : k = l.length := by omega
      subst this
      go_wp2_with fail
      go_ret
      have h := HK.out
      have o := h.own
      rw [List.take_length] at o
      exact ⟨u4, rfl, own_weaken o (Nat.le_succ _), h.bel⟩
end Go.Proofs.Ytinajjceojfflaa.Kp
