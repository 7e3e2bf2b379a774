/- Line.Do. -/
import Derived.Test.YtinajjceojfflaaLS1
import Derived.Test.YtinajjceojfflaaLB4
import Derived.Deep.RegionLaw
import Derived.Deep.AppendLies
import Derived.Deep.CutBlock
namespace Go.Proofs.Ytinajjceojfflaa.Kp
open Go.RowKit

theorem NS.toIntS {w : World} {v : Value} {xs : List Int} (h : NS w v xs) : IntS w v xs := by
  rcases h.is with h | ⟨b, off, c, cur, e, h1, h2, h3, h4⟩
  · exact .inl h
  · exact .inr ⟨b, off, c, cur, e, h1, h3, fun i hi => h4 i _ (getD_get hi)⟩
/-- a call of a function, as a step of a region that draws. -/
theorem step_call {P : Program} {ops : Array Oper} {o : Oper} {a : Act} {w : World} {K : Act → World → Prop} {Q : Exit → Act → World → Prop} {E : Prop} (hgd : o.guard = none) (f : FuncId) (args : Array Value)
    (hrun : (execOp a.eval o).run P w = .ok (.enter f args) w) (hc : Calls P f args w fun e w' => ∃ v, e = .returned v ∧ K (a.put o.dst v) w') : if Region.wanted o (yielded ops a.tmps) = true then Oper.wp P o a w K Q else E := by
  have hw : Region.wanted o (yielded ops a.tmps) = true := by simp [Region.wanted, hgd]
  rw [if_pos hw]
  unfold Oper.wp
  rw [hrun]
  refine hc.mono ?_
  rintro e w' ⟨v, rfl, hK⟩
  exact hK
/-- what Do gives. -/
def DoP (w : World) (vals row : List Int) (e : Ending) (w' : World) : Prop := ∃ A c A2 c2 sn, e = .returned (.tuple #[.agg #[.slice A vals.length c, .slice A2 row.length c2], sn]) ∧ NS w' (.slice A vals.length c) vals ∧ NS w' (.slice A2 row.length c2) row ∧ Below w.heap.size w w'
/-- in the midst of Do. -/
structure DoM (w : World) (vv rv k : Value) (vals row : List Int) (w5 : World) : Prop where
  lz : LZ w5 w.heap.size vv rv vals row
  r1 : Blk w5 (w.heap.size + 1 + 1) #[.slice none 0 0, .slice none 0 0] 71
  r2 : Blk w5 (w.heap.size + 1 + 1 + 1) #[.int .i64 0, .bool false, .slice none 0 0, .slice none 0 0] 31
  x : Blk w5 (w.heap.size + 1 + 1 + 1 + 1) #[.int .i64 0, .bool false, k, .slice none 0 0] 31
  bel : Below w.heap.size w w5
theorem DoM.below {w w5 w6 : World} {vv rv k : Value} {vals row : List Int} (h : DoM w vv rv k vals row w5) (hb : Below w5.heap.size w5 w6) : DoM w vv rv k vals row w6 :=
  ⟨h.lz.below hb, h.r1.below hb h.r1.lt, h.r2.below hb h.r2.lt, h.x.below hb h.x.lt, h.bel.trans (hb.mono h.bel.size)⟩
theorem DoM.set {w w5 : World} {vv rv k : Value} {vals row : List Int} (h : DoM w vv rv k vals row w5) (i : Nat) (v : Value) {vv' rv' : Value} (e : #[vv, rv].setIfInBounds i v = #[vv', rv']) {vals' row' : List Int} (hv : NS w5 vv' vals') (hr : NS w5 rv' row') : DoM w vv' rv' k vals' row' (w5.setCell ⟨w.heap.size, i, none⟩ v) := by
  have hb := h.lz.blk.set i v
  rw [e] at hb
  have hk : KeepI w5 (w5.setCell ⟨w.heap.size, i, none⟩ v) := KeepI.set h.lz.blk (by decide) v
  exact ⟨⟨hb, hv.keep hk, hr.keep hk⟩, h.r1.far (by omega), h.r2.far (by omega), h.x.far (by omega), h.bel.trans ((Fr.setCell (S := [w.heap.size]) w5 w.heap.size i v (by simp)).below (by simp) h.bel.size)⟩
theorem DoM.setX {w w5 : World} {vv rv k : Value} {vals row : List Int} (h : DoM w vv rv k vals row w5) (v : Value) : DoM w vv rv v vals row (w5.setCell ⟨w.heap.size + 1 + 1 + 1 + 1, 2, none⟩ v) := by
  have hk : KeepI w5 (w5.setCell ⟨w.heap.size + 1 + 1 + 1 + 1, 2, none⟩ v) := KeepI.set h.x (by decide) v
  exact ⟨⟨h.lz.blk.far (by omega), h.lz.vs.keep hk, h.lz.rs.keep hk⟩, h.r1.far (by omega), h.r2.far (by omega), h.x.set 2 v, h.bel.trans ((Fr.setCell (S := [w.heap.size + 1 + 1 + 1 + 1]) w5 _ 2 v (by simp)).below (by simp; omega) h.bel.size)⟩
theorem five_new (w : World) (vv rv : Value) (st : Array Value) (vals row : List Int) (hv : NS w vv vals) (hr : NS w rv row) :
    let W := ((((w.alloc (Obj.cells #[vv, rv] 71)).alloc (Obj.cells st 28)).alloc (Obj.cells #[.slice none 0 0, .slice none 0 0] 71)).alloc (Obj.cells #[.int .i64 0, .bool false, .slice none 0 0, .slice none 0 0] 31)).alloc (Obj.cells #[.int .i64 0, .bool false, .slice none 0 0, .slice none 0 0] 31)
    DoM w vv rv (.slice none 0 0) vals row W ∧ Blk W (w.heap.size + 1) st 28 ∧ W.heap.size = w.heap.size + 1 + 1 + 1 + 1 + 1 := by
  obtain ⟨W1, h1⟩ : ∃ W1, W1 = w.alloc (Obj.cells #[vv, rv] 71) := ⟨_, rfl⟩
  obtain ⟨W2, h2⟩ : ∃ W2, W2 = W1.alloc (Obj.cells st 28) := ⟨_, rfl⟩
  obtain ⟨W3, h3⟩ : ∃ W3, W3 = W2.alloc (Obj.cells #[.slice none 0 0, .slice none 0 0] 71) := ⟨_, rfl⟩
  obtain ⟨W4, h4⟩ : ∃ W4, W4 = W3.alloc (Obj.cells #[.int .i64 0, .bool false, .slice none 0 0, .slice none 0 0] 31) := ⟨_, rfl⟩
  obtain ⟨W5, h5⟩ : ∃ W5, W5 = W4.alloc (Obj.cells #[.int .i64 0, .bool false, .slice none 0 0, .slice none 0 0] 31) := ⟨_, rfl⟩
  have e1 : W1.heap.size = w.heap.size + 1 := by rw [h1]; simp
  have e2 : W2.heap.size = w.heap.size + 1 + 1 := by rw [h2]; simp [e1]
  have e3 : W3.heap.size = w.heap.size + 1 + 1 + 1 := by rw [h3]; simp [e2]
  have e4 : W4.heap.size = w.heap.size + 1 + 1 + 1 + 1 := by rw [h4]; simp [e3]
  have e5 : W5.heap.size = w.heap.size + 1 + 1 + 1 + 1 + 1 := by rw [h5]; simp [e4]
  have b1 := Blk.new w #[vv, rv] 71
  have b2 := Blk.new W1 st 28
  have b3 := Blk.new W2 #[.slice none 0 0, .slice none 0 0] 71
  have b4 := Blk.new W3 #[.int .i64 0, .bool false, .slice none 0 0, .slice none 0 0] 31
  have b5 := Blk.new W4 #[.int .i64 0, .bool false, .slice none 0 0, .slice none 0 0] 31
  rw [e1] at b2
  rw [e2] at b3
  rw [e3] at b4
  rw [e4] at b5
  have hB : Below w.heap.size w W5 := by
    have a1 : Below w.heap.size w W1 := by rw [h1]; exact (Below.refl _ w).alloc (Nat.le_refl _) _
    have a2 : Below w.heap.size w W2 := by rw [h2]; exact a1.alloc (by omega) _
    have a3 : Below w.heap.size w W3 := by rw [h3]; exact a2.alloc (by omega) _
    have a4 : Below w.heap.size w W4 := by rw [h4]; exact a3.alloc (by omega) _
    rw [h5]; exact a4.alloc (by omega) _
  have c1 : Blk W5 w.heap.size #[vv, rv] 71 := by
    rw [← h1] at b1
    have := b1.alloc (Obj.cells st 28)
    rw [← h2] at this
    have := this.alloc (Obj.cells #[.slice none 0 0, .slice none 0 0] 71)
    rw [← h3] at this
    have := this.alloc (Obj.cells #[.int .i64 0, .bool false, .slice none 0 0, .slice none 0 0] 31)
    rw [← h4] at this
    rw [h5]; exact this.alloc _
  have c2 : Blk W5 (w.heap.size + 1) st 28 := by
    rw [← h2] at b2
    have := b2.alloc (Obj.cells #[.slice none 0 0, .slice none 0 0] 71)
    rw [← h3] at this
    have := this.alloc (Obj.cells #[.int .i64 0, .bool false, .slice none 0 0, .slice none 0 0] 31)
    rw [← h4] at this
    rw [h5]; exact this.alloc _
  have c3 : Blk W5 (w.heap.size + 1 + 1) #[.slice none 0 0, .slice none 0 0] 71 := by
    rw [← h3] at b3
    have := b3.alloc (Obj.cells #[.int .i64 0, .bool false, .slice none 0 0, .slice none 0 0] 31)
    rw [← h4] at this
    rw [h5]; exact this.alloc _
  have c4 : Blk W5 (w.heap.size + 1 + 1 + 1) #[.int .i64 0, .bool false, .slice none 0 0, .slice none 0 0] 31 := by
    rw [← h4] at b4
    rw [h5]; exact b4.alloc _
  rw [← h5] at b5
  have main : DoM w vv rv (.slice none 0 0) vals row W5 ∧ Blk W5 (w.heap.size + 1) st 28 ∧ W5.heap.size = w.heap.size + 1 + 1 + 1 + 1 + 1 := ⟨⟨⟨c1, hv.below hB, hr.below hB⟩, c3, c4, b5, hB⟩, c2, e5⟩
  subst h5 h4 h3 h2 h1
  exact main
/-- the two results have been laid down. -/
theorem do_fin {w w5 wf : World} {A A2 : Option Addr} {c c2 : Nat} {k sn : Value} {vals row : List Int} (h : DoM w (.slice A vals.length c) (.slice A2 row.length c2) k vals row w5) (hf : Fr [w.heap.size + 1 + 1, w.heap.size + 1 + 1 + 1] w5 wf) :
    DoP w vals row (.returned (.tuple #[.agg #[.slice A vals.length c, .slice A2 row.length c2], sn])) wf := by
  have hk : KeepI w5 wf := KeepI.fr hf (fun b hb => by
    simp at hb
    rcases hb with rfl | rfl
    · exact ⟨_, _, h.r1, by decide⟩
    · exact ⟨_, _, h.r2, by decide⟩)
  exact ⟨_, _, _, _, _, rfl, h.lz.vs.keep hk, h.lz.rs.keep hk, h.bel.trans (hf.below (by simp; omega) h.bel.size)⟩
theorem fin_fr (w5 : World) (n : Nat) (a b p q r s : Value) : Fr [n + 1 + 1, n + 1 + 1 + 1] w5 ((((((w5.setCell ⟨n + 1 + 1, 0, none⟩ a).setCell ⟨n + 1 + 1, 1, none⟩ b).setCell ⟨n + 1 + 1 + 1, 0, none⟩ p).setCell ⟨n + 1 + 1 + 1, 1, none⟩ q).setCell ⟨n + 1 + 1 + 1, 2, none⟩ r).setCell ⟨n + 1 + 1 + 1, 3, none⟩ s) :=
  (((((Fr.setCell _ _ 0 _ (by simp)).comp (Fr.setCell _ _ 1 _ (by simp))).comp (Fr.setCell _ _ 0 _ (by simp))).comp (Fr.setCell _ _ 1 _ (by simp))).comp (Fr.setCell _ _ 2 _ (by simp))).comp (Fr.setCell _ _ 3 _ (by simp))
theorem fin_fr2 (w5 : World) (n : Nat) (a b p q r s : Value) : Fr [n + 1 + 1, n + 1 + 1 + 1] w5 ((((((w5.setCell ⟨n + 1 + 1 + 1, 0, none⟩ p).setCell ⟨n + 1 + 1 + 1, 1, none⟩ q).setCell ⟨n + 1 + 1 + 1, 2, none⟩ r).setCell ⟨n + 1 + 1 + 1, 3, none⟩ s).setCell ⟨n + 1 + 1, 0, none⟩ a).setCell ⟨n + 1 + 1, 1, none⟩ b) :=
  (((((Fr.setCell _ _ 0 _ (by simp)).comp (Fr.setCell _ _ 1 _ (by simp))).comp (Fr.setCell _ _ 2 _ (by simp))).comp (Fr.setCell _ _ 3 _ (by simp))).comp (Fr.setCell _ _ 0 _ (by simp))).comp (Fr.setCell _ _ 1 _ (by simp))
theorem do_fin9 {w w5 : World} {A A2 : Option Addr} {c c2 : Nat} {k sn a b p q r s : Value} {vals row : List Int} {n m : Nat} (en : vals.length = n) (em : row.length = m) (h : DoM w (.slice A n c) (.slice A2 m c2) k vals row w5) :
    DoP w vals row (.returned (.tuple #[.agg #[.slice A n c, .slice A2 m c2], sn])) (((((((w5.setCell ⟨w.heap.size + 1 + 1, 0, none⟩ a).setCell ⟨w.heap.size + 1 + 1, 1, none⟩ b).setCell ⟨w.heap.size + 1 + 1 + 1, 0, none⟩ p).setCell ⟨w.heap.size + 1 + 1 + 1, 1, none⟩ q).setCell ⟨w.heap.size + 1 + 1 + 1, 2, none⟩ r).setCell ⟨w.heap.size + 1 + 1 + 1, 3, none⟩ s).drew) := by
  subst en em
  exact do_fin h ((fin_fr w5 w.heap.size a b p q r s).comp (Fr.drewN _ _ 1))
/-- behind the switch. -/
def DoC (w : World) (vals row : List Int) (wx : World) : Prop := ∃ A3 n3 c3 A4 n4 c4, vals.length = n3 ∧ row.length = n4 ∧ DoM w (.slice A3 n3 c3) (.slice A4 n4 c4) (.slice none 0 0) vals row wx
end Go.Proofs.Ytinajjceojfflaa.Kp
