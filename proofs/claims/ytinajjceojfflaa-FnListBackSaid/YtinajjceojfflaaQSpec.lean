/- spec.Queue. -/
import Derived.Test.YtinajjceojfflaaQRun
import Derived.Test.YtinajjceojfflaaInto
import Derived.Deep.RegionLaw
namespace Go.Proofs.Ytinajjceojfflaa
open Go.RowKit

/-- at a round's head. -/
structure SQI (B : Nat) (l : List StepD) (w : World) (k : Nat) (cs : List Value) (bv v : Value) (wr : World) : Prop where
  outs : Outs B k (runQ [] (l.take k)).2 cs v w wr
  b : IntS wr bv (runQ [] (l.take k)).1
  len : (runQ [] (l.take k)).1.length ≤ k
/-- ahead of the append. -/
structure SQM (B : Nat) (l : List StepD) (w : World) (k : Nat) (cs : List Value) (bv v : Value) (a : StepD) (d : SeenD) (ka : Option Addr) (kc xb : Nat) (wr : World) : Prop where
  outs : Outs B k (runQ [] (l.take k)).2 cs v w wr
  b : IntS wr bv (stepQ a (runQ [] (l.take k)).1).1
  len : (stepQ a (runQ [] (l.take k)).1).1.length ≤ k + 1
  told : (stepQ a (runQ [] (l.take k)).1).2 = d
  hk : IntS wr (.slice ka d.keys.length kc) d.keys
  hd : d.vals = []
  blk : Blk wr xb #[.int .i64 d.n, .bool d.ok, .slice ka d.keys.length kc, .slice none 0 0] 31
theorem SQM.cells {B : Nat} {l : List StepD} {w : World} {k : Nat} {cs : List Value} {bv v : Value} {a : StepD} {d : SeenD} {ka : Option Addr} {kc xb : Nat} {wr : World} (h : SQM B l w k cs bv v a d ka kc xb wr) :
    wr.cell? ⟨xb, 0, none⟩ = some (.int .i64 d.n) ∧ wr.cell? ⟨xb, 1, none⟩ = some (.bool d.ok) ∧ wr.cell? ⟨xb, 2, none⟩ = some (.slice ka d.keys.length kc) ∧ wr.cell? ⟨xb, 3, none⟩ = some (.slice none 0 0) ∧ xb < wr.heap.size := ⟨h.blk.cell 0, h.blk.cell 1, h.blk.cell 2, h.blk.cell 3, h.blk.lt⟩
theorem SQM.next {B : Nat} {l : List StepD} {w : World} {k : Nat} {cs : List Value} {bv v : Value} {a : StepD} {d : SeenD} {ka : Option Addr} {kc xb : Nat} {wr w2 : World} {v' : Value} {o : Obj} (h : SQM B l w k cs bv v a d ka kc xb wr) (ha : l[k]? = some a) (hB : B ≤ w.heap.size)
    (ho : w2.ownsRow B 31 4 v' (k + 1) (cs ++ [.int .i64 d.n, .bool d.ok, .slice ka d.keys.length kc, .slice none 0 0])) (hg : (wr.alloc o).grownBy w2 v.ownBlock) :
    SQI B l w (k + 1) (cs ++ [.int .i64 d.n, .bool d.ok, .slice ka d.keys.length kc, .slice none 0 0]) bv v' w2 := by
  have hkl : k < l.length := (List.getElem?_eq_some_iff.1 ha).1
  have e : l.take (k + 1) = l.take k ++ [a] := by rw [List.take_succ_eq_append_getElem hkl]; congr; exact (List.getElem?_eq_some_iff.1 ha).2
  have hv : IntSl wr (.slice none d.vals.length 0) d.vals := by rw [h.hd]; exact IntSl.nil _
  have ho' : w2.ownsRow B 31 4 v' (k + 1) (cs ++ [.int .i64 d.n, .bool d.ok, .slice ka d.keys.length kc, .slice none d.vals.length 0]) := by rw [h.hd]; exact ho
  have N := h.outs.next hB h.hk.sl hv ho' hg
  have r := runQ_snoc a (l.take k) []
  have K : KeepsInts wr w2 := (KeepsInts.alloc wr o).trans (KeepsInts.grown hg (fun b hb => by
    rcases h.outs.own.2 with ⟨e, _⟩ | ⟨g, cap, cur, e, _, hc, _⟩
    · rw [e] at hb; cases hb
    · rw [e] at hb; cases hb
      exact ⟨cur, _, (show Blk wr _ _ _ from hc).alloc o, by decide⟩))
  refine ⟨?_, ?_, ?_⟩
  · rw [e, r, h.told]
    rw [h.hd] at N
    exact N
  · rw [e, r]; exact h.b.keep K
  · rw [e, r]; exact h.len
theorem stepQ_len (a : StepD) (xs : List Int) : (stepQ a xs).1.length ≤ xs.length + 1 := by
  unfold stepQ
  repeat' split
  all_goals simp
  all_goals omega
theorem SQM.mk' {B : Nat} {l : List StepD} {w : World} {k : Nat} {cs : List Value} {bv bv2 v : Value} {a : StepD} {d : SeenD} {ka : Option Addr} {kc xb : Nat} {wr w2 : World} {cx : Array Value} (h : SQI B l w k cs bv v wr) (hB : B ≤ w.heap.size)
    (hx : Blk wr xb cx 31) (hxB : B ≤ xb) (hv0 : v.ownBlock ≠ some xb) (hf : Fr [xb] wr w2) (hb2 : IntS w2 bv2 (stepQ a (runQ [] (l.take k)).1).1)
    (e2 : (stepQ a (runQ [] (l.take k)).1).2 = d) (hk : IntS w2 (.slice ka d.keys.length kc) d.keys) (hd : d.vals = [])
    (hb : Blk w2 xb #[.int .i64 d.n, .bool d.ok, .slice ka d.keys.length kc, .slice none 0 0] 31) : SQM B l w k cs bv2 v a d ka kc xb w2 :=
  ⟨h.outs.fr hB hf fun b hb => by rw [List.mem_singleton.1 hb]; exact ⟨hxB, hv0, _, _, hx, by decide⟩, hb2, by have := stepQ_len a (runQ [] (l.take k)).1; have := h.len; omega, e2, hk, hd, hb⟩
theorem SQM.of {B : Nat} {l : List StepD} {w : World} {k : Nat} {cs : List Value} {bv bv2 v : Value} {a : StepD} {d : SeenD} {ka : Option Addr} {kc : Nat} {wr : World} (h : SQI B l w k cs bv v wr) (hB : B ≤ w.heap.size)
    (hb2 : IntS wr bv2 (stepQ a (runQ [] (l.take k)).1).1) (e2 : (stepQ a (runQ [] (l.take k)).1).2 = d) (hk : IntS wr (.slice ka d.keys.length kc) d.keys) (hd : d.vals = []) :
    SQM B l w k cs bv2 v a d ka kc wr.heap.size (wr.alloc (Obj.cells #[.int .i64 d.n, .bool d.ok, .slice ka d.keys.length kc, .slice none 0 0] 31)) :=
  ⟨h.outs.alloc hB _, hb2.keep (KeepsInts.alloc _ _), by have := stepQ_len a (runQ [] (l.take k)).1; have := h.len; omega, e2, hk.keep (KeepsInts.alloc _ _), hd, Blk.new _ _ _⟩
theorem SQI.alloc {B : Nat} {l : List StepD} {w : World} {k : Nat} {cs : List Value} {bv v : Value} {wr : World} (h : SQI B l w k cs bv v wr) (hB : B ≤ w.heap.size) (o : Obj) : SQI B l w k cs bv v (wr.alloc o) :=
  ⟨h.outs.alloc hB o, h.b.keep (KeepsInts.alloc _ _), h.len⟩
theorem keep_ints {xb : Nat} {W w2 : World} {cx : Array Value} (hx : Blk W xb cx 31) (hf : Fr [xb] W w2) : KeepsInts W w2 := KeepsInts.fr hf (fun b hb => by rw [List.mem_singleton.1 hb]; exact ⟨_, _, hx, by decide⟩)
set_option maxRecDepth 100000 in
set_option maxHeartbeats 3200000 in
theorem specQueue_calls (lv : Value) (l : List StepD) (w : World) (hl : SlC 4 stepCell w w.heap.size lv l) (hln : l.length ≤ 7000000000) :
    Calls Try.prog 20 #[lv] w fun e w' => ∃ v', e = .returned v' ∧ Seens w' w.heap.size v' (runQ [] l).2 ∧ Below w.heap.size w w' := by
  obtain ⟨i0, hi0, hz0, hz1, hz2⟩ := info_parts Try.infoSeen
  obtain ⟨j0, hj0, hy0, hy1, hy2⟩ := info_parts Try.infoI
  obtain ⟨A3, c3, rfl⟩ := hl.form
  have HL := Lib.hid hl
  have HI := Lib.hid (show SQI w.heap.size l w 0 [] (.slice none 0 0) (.slice none 0 0) w from ⟨Outs.start _ _, IntS.nil _, Nat.le_refl _⟩)
  clear hl
  go_enter Try.func20, Try.ntmps20
  go_wp2_with fail
  go_loopw [3, 4, 5] (fun bv v i wr => ∃ k cs, k ≤ l.length ∧ i = .int .i64 (k : Nat) ∧ Hid (SQI w.heap.size l w k cs bv v wr)) (fun _ _ i _ => l.length - (intOf i).toNat)
  case atStart => exact ⟨0, [], Nat.zero_le _, rfl, HI⟩
  case round =>
    obtain ⟨k, cs, hk, rfl, HK⟩ := hrel
    by_cases hlt : k < l.length
    · obtain ⟨b, off, a, rfl, g1, g3, g4, g5, z⟩ := HL.out.at_ hlt
      obtain ⟨on, act, key, val⟩ := a
      have hw : Below w.heap.size w wr := HK.out.outs.below
      have q1 := (hw.cell (p := ⟨b, off + k * 4 + 1, none⟩) g3).trans (z 1 _ rfl)
      have q2 := (hw.cell (p := ⟨b, off + k * 4 + 2, none⟩) g3).trans (z 2 _ rfl)
      have blt : b < wr.heap.size := Nat.lt_of_lt_of_le g4 hw.size
      have HA := Lib.hid g5
      have HW := Lib.hid (HK.out.alloc (Nat.le_refl _) (Obj.cells #[.int .i64 0, .bool false, .slice none 0 0, .slice none 0 0] 31))
      have HX := Lib.hid (Blk.new wr #[.int .i64 0, .bool false, .slice none 0 0, .slice none 0 0] 31)
      have HV := Lib.hid (show u4.ownBlock ≠ some wr.heap.size ∧ w.heap.size ≤ wr.heap.size from ⟨fun e => by have := (HK.out.outs.own.lt _ e).2; omega, hw.size⟩)
      have hlk : (runQ [] (l.take k)).1.length ≤ k := HK.out.len
      have HQ := Lib.hid (show runQ [] (l.take k) = runQ [] (l.take k) from rfl)
      clear g5 z hw
      have dd : act = 0 ∨ act = 1 ∨ act = 2 ∨ act = 3 ∨ act = 4 ∨ ((act == 0) = false ∧ (act == 1) = false ∧ (act == 2) = false ∧ (act == 3) = false ∧ (act == 4) = false) := by
        simp only [beq_eq_false_iff_ne]; omega
      refine or6 dd ?k0 ?k1 ?k2 ?k3 ?k4 ?k5 <;> (clear dd; intro dd)
      case' k0 =>
        subst dd
        go_upto_region 9 with (fail)
        have qW : b < (wr.alloc (Obj.cells #[.int .i64 0, .bool false, .slice none 0 0, .slice none 0 0] 31)).heap.size ∧ (wr.alloc (Obj.cells #[.int .i64 0, .bool false, .slice none 0 0, .slice none 0 0] 31)).cell? ⟨b, off + k * 4 + 2, none⟩ = some (.int .i64 key) := ⟨by simp; omega, (World.cell?_alloc_lt _ _ _ blt).trans q2⟩
        obtain ⟨bW, q2W⟩ := qW
        generalize hW1 : wr.alloc (Obj.cells #[.int .i64 0, .bool false, .slice none 0 0, .slice none 0 0] 31) = W1 at *
        have h := HW.out
        have pa := (Cp1.first h.b).drew
        have pc := ((Cp1.first h.b).alloc (Obj.cells #[Value.int .i64 key] 3)).drew
        have pb := (Cp1.second h.b (Obj.cells #[Value.int .i64 key] 3)).drew
        clear h
        generalize hY : runQ [] (l.take k) = Y at *
        have HY := Lib.hid hY
        clear hY
        go_region_law
          ((first
            | (refine step_append_into rfl (.tmp 20) (.tmp 21) 22 rfl W1.heap.size 3 j0 _ 8 Try.underlying22 hj0 hy0 hy1 hy2 rfl _ 0 0 [] (by rfl) (by with_reducible first | exact pa.own | exact pb.own | exact pc.own) u3 Y.1 (by rfl) (by with_reducible first | exact pa.b | exact pb.b | exact pc.b) (by unfold maxLen; omega) (by omega) (by with_reducible first | exact pa.bel.size | exact pb.bel.size | exact pc.bel.size) _ (by rfl) ?_; intro gg cap w1 hown1 hgrow hat hlt1
               obtain ⟨r1, rm⟩ := Cp1.next (by with_reducible first | exact pa | exact pb | exact pc) hown1 hgrow
               have q2' := (r1.bel.cell (p := ⟨b, off + k * 4 + 2, none⟩) bW).trans q2W
               clear hown1 hgrow hat hlt1)
            | (refine step_append_lies _ rfl (.tmp 22) (.tmp 28) 22 rfl W1.heap.size 3 j0 _ 1 8 Try.underlying22 hj0 hy0 hy1 hy2 rfl (by omega) (.slice (some ⟨gg, 0, none⟩) Y.1.length cap) Y.1.length (Y.1.map i64v) (by rfl) (by with_reducible first | exact r1.own | exact (r1.alloc _).own) _ 1 1 [.int .i64 key] (by rfl) (by rfl) (news1 (by first | (simp; done) | (refine rm _ _ (by simp) ?_; simp))) (fun _ h => by rw [List.mem_singleton.1 h]; rfl) (by omega) (by unfold maxLen; omega) (by omega) (by with_reducible first | exact r1.le | exact (r1.alloc _).le) _ (by rfl) ?_; intro gv capv w2 hown2 hgrow2 hatv hlt2
               have r2 := Cp2.next (by with_reducible first | exact r1 | exact r1.alloc _) hown2 hgrow2
               clear hown2 hgrow2 hatv hlt2)))
        all_goals
          have h := HW.out
          have e1 : (stepQ ⟨on, 0, key, val⟩ Y.1).1 = Y.1 ++ [key] := by simp [stepQ]
          have HM := Lib.hid (SQM.mk' (a := ⟨on, 0, key, val⟩) (bv2 := .slice (some ⟨gv, 0, none⟩) (Y.1.length + 1) capv) (d := .none) (ka := none) (kc := 0) h (Nat.le_refl _) HX.out HV.out.2 HV.out.1 (Fr.of_below r2.bel) (by rw [HY.out, e1]; exact r2.b) (by simp [stepQ]) (IntS.nil _) rfl (HX.out.below r2.bel HX.out.lt))
          clear e1 rm
          clear r1 r2 q2'
          go_upto_region 21 with (fail)
          have HA' := HA
          clear h HA pa pb pc
          have HA := HA'
          clear HA' HW HX HK HV q1 q2 q2W hW1 blt bW
          obtain ⟨m0, m1, m2, m3, ml⟩ := HM.out.cells
      case' k1 =>
        subst dd
        obtain ⟨A0, cb, e3⟩ := HK.out.b.form
        generalize hY : runQ [] (l.take k) = Y at *
        obtain ⟨ys, os⟩ := Y
        have HY := Lib.hid hY
        have HB := Lib.hid HK.out.b
        rw [hY] at HB
        clear hY
        simp only at e3 hlk HB
        subst e3
        rcases ys with _ | ⟨y, ys⟩
        case' nil =>
          have HM := Lib.hid (SQM.of (a := ⟨on, 1, key, val⟩) (bv2 := .slice A0 0 cb) (d := ⟨0, false, [], []⟩) (ka := none) (kc := 0) HK.out (Nat.le_refl _) (by rw [HY.out]; have := HB.out; simpa [stepQ] using this) (by rw [HY.out]; simp [stepQ, SeenD.none]) (IntS.nil _) rfl)
          go_upto_region 21 with (fail)
          generalize wr.alloc (Obj.cells #[Value.int .i64 (0), .bool (false), .slice none 0 0, .slice none 0 0] 31) = w2 at *
          have HA' := HA
          clear HA
          have HA := HA'
          clear HA' HW HX HK HV q1 q2 blt HB
          obtain ⟨m0, m1, m2, m3, ml⟩ := HM.out.cells
        case' cons =>
          have hbl : 0 < ys.length + 1 := by omega
          obtain ⟨b0, off0, rfl, y1, y2, y3⟩ := HB.out.at_ (i := 0) (by simp)
          simp only [List.length_cons, Nat.add_zero, List.getD_cons_zero] at y2 y3
          have hbv : IntS wr (.slice (if cb = 1 then some ⟨b0, off0, none⟩ else some ⟨b0, off0 + 1, none⟩) ys.length (cb - 1)) ys := by
            split
            · rename_i hc
              exact IntS.tail HB.out off0 (fun h => absurd hc (by omega))
            · exact IntS.tail HB.out (off0 + 1) (fun _ => rfl)
          have HBV := Lib.hid hbv
          clear hbv
          have HM := Lib.hid (SQM.of (a := ⟨on, 1, key, val⟩) (bv2 := .slice (if cb = 1 then some ⟨b0, off0, none⟩ else some ⟨b0, off0 + 1, none⟩) ys.length (cb - 1)) (d := ⟨y, true, [], []⟩) (ka := none) (kc := 0) HK.out (Nat.le_refl _) (by rw [HY.out]; exact HBV.out) (by rw [HY.out]; simp [stepQ, SeenD.none]) (IntS.nil _) rfl)
          go_upto_region 21 with (fail)
          clear HBV y1 y2 y3 hbl
          generalize Value.slice (if cb = 1 then some ⟨b0, off0, none⟩ else some ⟨b0, off0 + 1, none⟩) ys.length (cb - 1) = bv2 at *
          generalize wr.alloc (Obj.cells #[Value.int .i64 (y), .bool (true), .slice none 0 0, .slice none 0 0] 31) = w2 at *
          have HA' := HA
          clear HA
          have HA := HA'
          clear HA' HW HX HK HV q1 q2 blt HB
          obtain ⟨m0, m1, m2, m3, ml⟩ := HM.out.cells
      case' k2 =>
        subst dd
        obtain ⟨A0, cb, e3⟩ := HK.out.b.form
        generalize hY : runQ [] (l.take k) = Y at *
        obtain ⟨ys, os⟩ := Y
        have HY := Lib.hid hY
        have HB := Lib.hid HK.out.b
        rw [hY] at HB
        clear hY
        simp only at e3 hlk HB
        subst e3
        rcases ys with _ | ⟨y, ys⟩
        case' nil =>
          have HM := Lib.hid (SQM.of (a := ⟨on, 2, key, val⟩) (bv2 := .slice A0 0 cb) (d := ⟨0, false, [], []⟩) (ka := none) (kc := 0) HK.out (Nat.le_refl _) (by rw [HY.out]; have := HB.out; simpa [stepQ] using this) (by rw [HY.out]; simp [stepQ, SeenD.none]) (IntS.nil _) rfl)
          go_upto_region 21 with (fail)
          generalize wr.alloc (Obj.cells #[Value.int .i64 (0), .bool (false), .slice none 0 0, .slice none 0 0] 31) = w2 at *
          have HA' := HA
          clear HA
          have HA := HA'
          clear HA' HW HX HK HV q1 q2 blt HB
          obtain ⟨m0, m1, m2, m3, ml⟩ := HM.out.cells
        case' cons =>
          have hbl : 0 < ys.length + 1 := by omega
          obtain ⟨b0, off0, rfl, y1, y2, y3⟩ := HB.out.at_ (i := 0) (by simp)
          simp only [List.length_cons, Nat.add_zero, List.getD_cons_zero] at y2 y3
          have HM := Lib.hid (SQM.of (a := ⟨on, 2, key, val⟩) (bv2 := .slice (some ⟨b0, off0, none⟩) (ys.length + 1) cb) (d := ⟨y, true, [], []⟩) (ka := none) (kc := 0) HK.out (Nat.le_refl _) (by rw [HY.out]; exact HB.out) (by rw [HY.out]; simp [stepQ, SeenD.none]) (IntS.nil _) rfl)
          go_upto_region 21 with (fail)
          clear y1 y2 y3 hbl
          generalize wr.alloc (Obj.cells #[Value.int .i64 (y), .bool (true), .slice none 0 0, .slice none 0 0] 31) = w2 at *
          have HA' := HA
          clear HA
          have HA := HA'
          clear HA' HW HX HK HV q1 q2 blt HB
          obtain ⟨m0, m1, m2, m3, ml⟩ := HM.out.cells
      case' k3 =>
        subst dd
        obtain ⟨A0, cb, e3⟩ := HK.out.b.form
        generalize hY : runQ [] (l.take k) = Y at *
        obtain ⟨ys, os⟩ := Y
        have HY := Lib.hid hY
        have HB := Lib.hid HK.out.b
        rw [hY] at HB
        clear hY
        simp only at e3 hlk HB
        subst e3
        rcases ys with _ | ⟨y, ys⟩
        case' nil =>
          have HM := Lib.hid (SQM.of (a := ⟨on, 3, key, val⟩) (bv2 := .slice A0 0 cb) (d := ⟨0, true, [], []⟩) (ka := none) (kc := 0) HK.out (Nat.le_refl _) (by rw [HY.out]; have := HB.out; simpa [stepQ] using this) (by rw [HY.out]; simp [stepQ, SeenD.none]) (IntS.nil _) rfl)
          go_upto_region 21 with (fail)
          generalize wr.alloc (Obj.cells #[Value.int .i64 (0), .bool (true), .slice none 0 0, .slice none 0 0] 31) = w2 at *
          have HA' := HA
          clear HA
          have HA := HA'
          clear HA' HW HX HK HV q1 q2 blt HB
          obtain ⟨m0, m1, m2, m3, ml⟩ := HM.out.cells
        case' cons =>
          have e3 : ((ys.length : Int) + 1 == 0) = false := by rw [beq_eq_false_iff_ne]; omega
          have HM := Lib.hid (SQM.of (a := ⟨on, 3, key, val⟩) (bv2 := .slice A0 (ys.length + 1) cb) (d := ⟨0, false, [], []⟩) (ka := none) (kc := 0) HK.out (Nat.le_refl _) (by rw [HY.out]; exact HB.out) (by rw [HY.out]; simp [stepQ, SeenD.none]) (IntS.nil _) rfl)
          go_upto_region 21 with (fail)
          clear e3
          generalize wr.alloc (Obj.cells #[Value.int .i64 (0), .bool (false), .slice none 0 0, .slice none 0 0] 31) = w2 at *
          have HA' := HA
          clear HA
          have HA := HA'
          clear HA' HW HX HK HV q1 q2 blt HB
          obtain ⟨m0, m1, m2, m3, ml⟩ := HM.out.cells
      case' k4 =>
        subst dd
        obtain ⟨A0, cb, e3⟩ := HK.out.b.form
        generalize hY : runQ [] (l.take k) = Y at *
        obtain ⟨ys, os⟩ := Y
        have HY := Lib.hid hY
        have HB := Lib.hid HK.out.b
        rw [hY] at HB
        clear hY
        simp only at e3 hlk HB
        subst e3
        have HM := Lib.hid (SQM.of (a := ⟨on, 4, key, val⟩) (bv2 := .slice A0 ys.length cb) (d := ⟨0, false, ys, []⟩)  HK.out (Nat.le_refl _) (by rw [HY.out]; exact HB.out) (by rw [HY.out]; simp [stepQ, SeenD.none]) HB.out rfl)
        go_upto_region 21 with (fail)
        generalize wr.alloc (Obj.cells #[Value.int .i64 (0), .bool (false), .slice A0 ys.length cb, .slice none 0 0] 31) = w2 at *
        have HA' := HA
        clear HA
        have HA := HA'
        clear HA' HW HX HK HV q1 q2 blt HB
        obtain ⟨m0, m1, m2, m3, ml⟩ := HM.out.cells
      case' k5 =>
        obtain ⟨e0, e1, e2, e3, e4⟩ := dd
        have HM := Lib.hid (SQM.of (a := ⟨on, act, key, val⟩) (bv2 := u3) (d := ⟨0, false, [], []⟩) (ka := none) (kc := 0) HK.out (Nat.le_refl _) (by have := HK.out.b; simp_all [stepQ]) (by simp_all [stepQ, SeenD.none]) (IntS.nil _) rfl)
        go_upto_region 21 with (fail)
        clear e0 e1 e2 e3 e4
        generalize wr.alloc (Obj.cells #[Value.int .i64 0, .bool false, .slice none 0 0, .slice none 0 0] 31) = w2 at *
        have HA' := HA
        clear HA
        have HA := HA'
        clear HA' HW HX HK HV q1 q2 blt
        obtain ⟨m0, m1, m2, m3, ml⟩ := HM.out.cells
      all_goals
        go_wp2_with (at_builtin; refine wpList_append_own _ rfl (.tmp 62) (.tmp 64) 25 rfl w.heap.size 31 i0 _ 4 64 Try.underlying25 hi0 hz0 hz1 hz2 rfl (by omega) u4 k cs rfl (HM.out.outs.own.alloc _) ⟨w2.heap.size, 0, none⟩ 1 1 _ rfl rfl (news_blk (Blk.new w2 _ _)) (by simp [Value.oneCell']) (by unfold maxLen; omega) (by omega) (by have := HM.out.outs.below.size; simp; omega) ?_; intro v' w3 hown' hgrow _)
        exact ⟨⟨k + 1, _, by omega, by go_num, Lib.hid (HM.out.next HA.out (Nat.le_refl _) hown' hgrow)⟩, by simp [intOf]; omega⟩
    · have : k = l.length := by omega
      subst this
      go_wp2_with fail
      go_ret
      have o := HK.out.outs
      rw [List.take_length] at o
      exact ⟨u4, rfl, ⟨cs, by rw [runQ_len]; exact o.own, o.tr⟩, o.below⟩
end Go.Proofs.Ytinajjceojfflaa
