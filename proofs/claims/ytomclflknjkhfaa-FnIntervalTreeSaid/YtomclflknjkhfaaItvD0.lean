/- impl.intervalDo: what holds at a round's head, and ahead of the append. -/
import Derived.Test.YtomclflknjkhfaaItvTa
import Derived.Test.YtomclflknjkhfaaItvU
import Derived.Deep.CutBlock
import Derived.Deep.RegionLaw
import Derived.Deep.RegionHeld3
import Derived.Deep.AppendLies
import Derived.WalkSpells
namespace Go.Proofs.Ytomclflknjkhfaa
open Go.RowKit ItP

/-- every interval put, and every range asked, has a number in it. -/
def PropL (l : List MarkD) : Prop := ∀ a ∈ l, a.act = 0 ∨ a.act = 1 ∨ a.act = 4 → a.lo < a.hi
theorem runI_snoc (a : MarkD) (l : List MarkD) (t : IT) : runI t (l ++ [a]) = (nextI a 0 (runI t l).1, (runI t l).2 ++ [toldI a (runI t l).1]) := by
  rw [runI_append]; rfl
def fnd0 : Array Value := #[.int .i64 0, .int .i64 0, .int .i64 0, .bool false, .slice none 0 0, .int .i64 0]
/-- at a round's head. -/
structure ItHead (B tb : Nat) (l : List MarkD) (w : World) (k : Nat) (t : IT) (cs : List Value) (v : Value) (wr : World) : Prop where
  outs : FOuts B k (runI .nil (l.take k)).2 cs v w wr
  tree : TreeW wr tb t
  er : t.er = (runI .nil (l.take k)).1
  nd : t.ids.Nodup
  good : t.Good
  ge : ∀ i ∈ t.ids, B ≤ i
  len : t.ids.length ≤ k
theorem ItHead.alloc {B tb : Nat} {l : List MarkD} {w : World} {k : Nat} {t : IT} {cs : List Value} {v : Value} {wr : World} (h : ItHead B tb l w k t cs v wr) (hB : B ≤ w.heap.size) (o : Obj) : ItHead B tb l w k t cs v (wr.alloc o) :=
  ⟨h.outs.alloc hB o, h.tree.fr (Fr.alloc [] _ _), h.er, h.nd, h.good, h.ge, h.len⟩
/-- at the switch. -/
structure ItTop (B tb : Nat) (l : List MarkD) (w : World) (k : Nat) (t : IT) (cs : List Value) (v : Value) (a : MarkD) (mb xb kb : Nat) (W : World) : Prop where
  head : ItHead B tb l w k t cs v W
  fm : Blk W mb #[.int .i64 a.act, .int .i64 a.lo, .int .i64 a.hi, .int .i64 a.val] 49
  fx : Blk W xb fnd0 52
  fk : Blk W kb #[.int .i64 0, .int .i64 0, .int .i64 0] 131
  xB : B ≤ xb
  kB : B ≤ kb
  tB : B ≤ tb
  wB : B ≤ w.heap.size
  nx : v.ownBlock ≠ some xb
theorem ItTop.mk' {B tb : Nat} {l : List MarkD} {w : World} {k : Nat} {t : IT} {cs : List Value} {v : Value} {wr : World} (a : MarkD) (h : ItHead B tb l w k t cs v wr) (hB : B ≤ w.heap.size) (ht : B ≤ tb) :
    ItTop B tb l w k t cs v a wr.heap.size (wr.heap.size + 1) (wr.heap.size + 1 + 1) (((wr.alloc (Obj.cells #[.int .i64 a.act, .int .i64 a.lo, .int .i64 a.hi, .int .i64 a.val] 49)).alloc (Obj.cells fnd0 52)).alloc (Obj.cells #[.int .i64 0, .int .i64 0, .int .i64 0] 131)) := by
  have hs := h.outs.below.size
  have b1 := Blk.new (wr.alloc (Obj.cells #[.int .i64 a.act, .int .i64 a.lo, .int .i64 a.hi, .int .i64 a.val] 49)) fnd0 52
  rw [show (wr.alloc (Obj.cells #[.int .i64 a.act, .int .i64 a.lo, .int .i64 a.hi, .int .i64 a.val] 49)).heap.size = wr.heap.size + 1 by simp] at b1
  have b2 := Blk.new ((wr.alloc (Obj.cells #[.int .i64 a.act, .int .i64 a.lo, .int .i64 a.hi, .int .i64 a.val] 49)).alloc (Obj.cells fnd0 52)) #[.int .i64 0, .int .i64 0, .int .i64 0] 131
  rw [show ((wr.alloc (Obj.cells #[.int .i64 a.act, .int .i64 a.lo, .int .i64 a.hi, .int .i64 a.val] 49)).alloc (Obj.cells fnd0 52)).heap.size = wr.heap.size + 1 + 1 by simp] at b2
  exact ⟨((h.alloc hB _).alloc hB _).alloc hB _, ((Blk.new wr _ _).alloc _).alloc _, b1.alloc _, b2, by omega, by omega, ht, hB, fun e => by have := (h.outs.own.lt _ e).2; omega⟩
/-- ahead of the append. -/
structure ItMid (B tb : Nat) (l : List MarkD) (w : World) (k : Nat) (T : IT) (cs : List Value) (v : Value) (a : MarkD) (d : FoundD) (A : Option Addr) (c xb kb : Nat) (wx : World) : Prop where
  outs : FOuts B k (runI .nil (l.take k)).2 cs v w wx
  tree : TreeW wx tb T
  er : T.er = nextI a 0 (runI .nil (l.take k)).1
  told : toldI a (runI .nil (l.take k)).1 = d
  nd : T.ids.Nodup
  good : T.Good
  ge : ∀ i ∈ T.ids, B ≤ i
  len : T.ids.length ≤ k + 1
  sp : SpSl wx (.slice A d.all.length c) d.all
  fx : Blk wx xb #[.int .i64 0, .int .i64 0, .int .i64 0, .bool d.ok, .slice A d.all.length c, .int .i64 d.n] 52
  fk : Blk wx kb #[.int .i64 d.one.lo, .int .i64 d.one.hi, .int .i64 d.one.v] 131
  xB : B ≤ xb
  nx : v.ownBlock ≠ some xb
section
variable {B tb : Nat} {l : List MarkD} {w : World} {k : Nat} {t : IT} {cs : List Value} {v : Value} {a : MarkD} {mb xb kb : Nat} {W : World}
theorem ItTop.mid (h : ItTop B tb l w k t cs v a mb xb kb W) {d : FoundD} {A : Option Addr} {c nb : Nat} {S : List Nat} {w2 : World} (hf : Fr S W w2) (hS : ∀ b ∈ S, b = xb ∨ b = kb ∨ b ∈ tb :: t.ids)
    (hT : TreeW w2 tb (nextI a nb t)) (hnb : W.heap.size ≤ nb) (hd : toldI a t = d) (hsp : SpSl w2 (.slice A d.all.length c) d.all)
    (hx : Blk w2 xb #[.int .i64 0, .int .i64 0, .int .i64 0, .bool d.ok, .slice A d.all.length c, .int .i64 d.n] 52) (hk : Blk w2 kb #[.int .i64 d.one.lo, .int .i64 d.one.hi, .int .i64 d.one.v] 131) :
    ItMid B tb l w k (nextI a nb t) cs v a d A c xb kb w2 := by
  have hn : nb ∉ t.ids := fun hx => by have := IT.In.lt h.head.tree.lies _ hx; omega
  have hWB := Nat.le_trans h.wB h.head.outs.below.size
  obtain ⟨n1, n2, n3⟩ := next_ids (a := a) h.head.nd hn
  refine ⟨h.head.outs.fr h.wB hf fun b hb => ?_, hT, by rw [er_next, h.head.er], by rw [← h.head.er, er_told, hd], n1, good_next h.head.good, fun i hi => (n2 i hi).elim (h.head.ge i) (fun e => by omega), by have := h.head.len; omega, hsp, hx, hk, h.xB, h.nx⟩
  rcases hS b hb with rfl | rfl | hb
  · exact ⟨h.xB, h.nx, _, _, h.fx, by decide⟩
  · exact ⟨h.kB, h.head.outs.not_own h.fk (by decide), _, _, h.fk, by decide⟩
  · rcases List.mem_cons.1 hb with rfl | hb
    · exact ⟨h.tB, h.head.outs.not_own h.head.tree.at_ (by decide), _, _, h.head.tree.at_, by decide⟩
    · have hge := h.head.ge b hb
      obtain ⟨cs', hc⟩ := node_at h.head.tree.lies hb
      exact ⟨hge, h.head.outs.not_own hc (by decide), _, _, hc, by decide⟩
where
  node_at {W : World} {b : Nat} : ∀ {t : IT}, t.In W → b ∈ t.ids → ∃ cs, Blk W b cs 178
    | .nil, _, h => by cases h
    | .node b' s h m l r, hi, hb => by
      rcases List.mem_cons.1 hb with rfl | hb
      · exact ⟨_, hi.1⟩
      · rcases List.mem_append.1 hb with hb | hb
        · exact node_at hi.2.1 hb
        · exact node_at hi.2.2 hb
theorem kv_got {o : Option Sp} {x y z : Int} (h : kvOf o = .agg #[.int .i64 x, .int .i64 y, .int .i64 z]) : (gotD o).one = ⟨x, y, z⟩ := by
  cases o with
  | none => simp [kvOf] at h; obtain ⟨rfl, rfl, rfl⟩ := h; rfl
  | some s => simp [kvOf] at h; obtain ⟨rfl, rfl, rfl⟩ := h; rfl
/-- behind a call on the tree that may write into it alone. -/
structure ItCall (xb kb tb : Nat) (t T : IT) (W w2 : World) : Prop where
  fx : Blk w2 xb fnd0 52
  fk : Blk w2 kb #[.int .i64 0, .int .i64 0, .int .i64 0] 131
  tree : TreeW w2 tb T
  fr : Fr (tb :: t.ids) W w2
theorem ItTop.call (h : ItTop B tb l w k t cs v a mb xb kb W) {T : IT} {w2 : World} (hT : TreeW w2 tb T) (hf : Fr (tb :: t.ids) W w2) : ItCall xb kb tb t T W w2 := by
  refine ⟨h.fx.fr hf ?_, h.fk.fr hf ?_, hT, hf⟩
  · intro hx
    rcases List.mem_cons.1 hx with e | hx
    · exact absurd (Blk.ty h.fx (e ▸ h.head.tree.at_)) (by decide)
    · exact in_ne h.fx (by decide) h.head.tree.lies hx
  · intro hx
    rcases List.mem_cons.1 hx with e | hx
    · exact absurd (Blk.ty h.fk (e ▸ h.head.tree.at_)) (by decide)
    · exact in_ne h.fk (by decide) h.head.tree.lies hx
theorem ItCall.go {T : IT} {w2 : World} (h : ItCall xb kb tb t T W w2) : ((∀ i, w2.frozen? ⟨xb, i, none⟩ = false) ∧ (∀ i, w2.frozen? ⟨kb, i, none⟩ = false)) ∧ w2.cell? ⟨xb, 3, none⟩ = some (.bool false) ∧ w2.cell? ⟨xb, 5, none⟩ = some (.int .i64 0) ∧
    w2.cell? ⟨kb, 0, none⟩ = some (.int .i64 0) ∧ w2.cell? ⟨kb, 1, none⟩ = some (.int .i64 0) ∧ w2.cell? ⟨kb, 2, none⟩ = some (.int .i64 0) :=
  ⟨⟨h.fx.frozen, h.fk.frozen⟩, h.fx.cell 3, h.fx.cell 5, h.fk.cell 0, h.fk.cell 1, h.fk.cell 2⟩
/-- a number stored: the tree stays. -/
theorem ItTop.num (_h : ItTop B tb l w k t cs v a mb xb kb W) {T : IT} {w2 : World} (hc : ItCall xb kb tb t T W w2) (u : Value) : TreeW (w2.setCell ⟨xb, 5, none⟩ u) tb T := by
  have f := Fr.setCell (S := [xb]) w2 xb 5 u (by simp)
  exact ⟨hc.tree.at_.fr f (fun hm => by rw [List.mem_singleton] at hm; exact absurd (Blk.ty hc.fx (hm ▸ hc.tree.at_)) (by decide)), IT.In.fr f hc.tree.lies (fun i hi hm => by rw [List.mem_singleton] at hm; subst hm; exact in_ne hc.fx (by decide) hc.tree.lies hi)⟩
/-- what is told of one interval, stored. -/
theorem ItTop.kv (h : ItTop B tb l w k t cs v a mb xb kb W) {nb : Nat} {w2 : World} {x y z : Int} (hc : ItCall xb kb tb t (nextI a nb t) W w2) (hnb : W.heap.size ≤ nb) (hd : toldI a t = gotD (t.get a.lo)) (hk : kvOf (t.get a.lo) = .agg #[.int .i64 x, .int .i64 y, .int .i64 z]) :
    ItMid B tb l w k (nextI a nb t) cs v a (gotD (t.get a.lo)) none 0 xb kb ((((w2.setCell ⟨kb, 0, none⟩ (.int .i64 x)).setCell ⟨kb, 1, none⟩ (.int .i64 y)).setCell ⟨kb, 2, none⟩ (.int .i64 z)).setCell ⟨xb, 3, none⟩ (.bool (t.get a.lo).isSome)) := by
  have hne : xb ≠ kb := fun e => absurd (Blk.ty (e ▸ hc.fx) hc.fk) (by decide)
  have f3 : Fr [xb, kb] w2 ((((w2.setCell ⟨kb, 0, none⟩ (.int .i64 x)).setCell ⟨kb, 1, none⟩ (.int .i64 y)).setCell ⟨kb, 2, none⟩ (.int .i64 z)).setCell ⟨xb, 3, none⟩ (.bool (t.get a.lo).isSome)) :=
    (((Fr.setCell _ kb 0 _ (by simp)).comp (Fr.setCell _ kb 1 _ (by simp))).comp (Fr.setCell _ kb 2 _ (by simp))).comp (Fr.setCell _ xb 3 _ (by simp))
  have hx1 : ∀ i ∈ [xb, kb], i ∉ tb :: (nextI a nb t).ids := by
    intro i hi hm
    simp only [List.mem_cons, List.not_mem_nil, or_false] at hi
    rcases hi with rfl | rfl
    · rcases List.mem_cons.1 hm with e | hm
      · exact absurd (Blk.ty hc.fx (e ▸ hc.tree.at_)) (by decide)
      · exact in_ne hc.fx (by decide) hc.tree.lies hm
    · rcases List.mem_cons.1 hm with e | hm
      · exact absurd (Blk.ty hc.fk (e ▸ hc.tree.at_)) (by decide)
      · exact in_ne hc.fk (by decide) hc.tree.lies hm
  have e1 := kv_got hk
  refine h.mid (S := tb :: t.ids ++ [xb, kb]) ((hc.fr.mono (fun i hi => .inl (List.mem_append_left _ hi))).comp (f3.mono (fun i hi => .inl (List.mem_append_right _ hi)))) (fun b hb => ?_) ⟨hc.tree.at_.fr f3 (fun hm => hx1 _ hm (List.mem_cons_self ..)), IT.In.fr f3 hc.tree.lies (fun i hi hm => hx1 _ hm (List.mem_cons_of_mem _ hi))⟩ hnb hd (SpSl.nil _) ?_ ?_
  · rcases List.mem_append.1 hb with hb | hb
    · exact .inr (.inr hb)
    · simp at hb; rcases hb with rfl | rfl <;> simp
  · exact (((hc.fx.far hne).far hne).far hne).set 3 _
  · rw [e1]
    exact (((hc.fk.set 0 _).set 1 _).set 2 _).far (Ne.symm hne)
theorem ItMid.next {T : IT} {d : FoundD} {A : Option Addr} {c : Nat} {wr wx w2 : World} {v' : Value} {o : Obj} (h : ItMid B tb l w k T cs v a d A c xb kb wr) (hf : Fr [xb] wr wx) (ha : l[k]? = some a) (hB : B ≤ w.heap.size)
    (ho : w2.ownsRow B 52 6 v' (k + 1) (cs ++ [.int .i64 d.one.lo, .int .i64 d.one.hi, .int .i64 d.one.v, .bool d.ok, .slice A d.all.length c, .int .i64 d.n])) (hg : (wx.alloc o).grownBy w2 v.ownBlock) :
    ItHead B tb l w (k + 1) T (cs ++ [.int .i64 d.one.lo, .int .i64 d.one.hi, .int .i64 d.one.v, .bool d.ok, .slice A d.all.length c, .int .i64 d.n]) v' w2 := by
  have hkl : k < l.length := (List.getElem?_eq_some_iff.1 ha).1
  have e : l.take (k + 1) = l.take k ++ [a] := by rw [List.take_succ_eq_append_getElem hkl]; congr; exact (List.getElem?_eq_some_iff.1 ha).2
  have tx : tb ≠ xb := fun e => absurd (Blk.ty (e ▸ h.tree.at_) h.fx) (by decide)
  have o1 := h.outs.fr hB hf (fun b hb => by rw [List.mem_singleton.1 hb]; exact ⟨h.xB, h.nx, _, _, h.fx, by decide⟩)
  have s1 : SpSl wx (.slice A d.all.length c) d.all := h.sp.keep (KeepsSp.fr hf (fun b hb => by rw [List.mem_singleton.1 hb]; exact ⟨_, _, h.fx, by decide⟩))
  have t1 : TreeW wx tb T := ⟨h.tree.at_.fr hf (by simpa using tx), IT.In.fr hf h.tree.lies (fun i hi hm => in_ne h.fx (by decide) h.tree.lies (by rw [← List.mem_singleton.1 hm]; exact hi))⟩
  have N := o1.next hB s1 ho hg
  have fo := o1.frOwn hg
  refine ⟨?_, ⟨t1.at_.fr fo ?_, IT.In.fr fo t1.lies ?_⟩, by rw [e, runI_snoc]; exact h.er, h.nd, h.good, h.ge, h.len⟩
  · rw [e, runI_snoc, h.told]; exact N
  · intro hx; exact o1.not_own t1.at_ (by decide) (by simpa using hx)
  · intro i hi hm
    obtain ⟨cs', hc⟩ := ItTop.mid.node_at t1.lies hi
    exact o1.not_own hc (by decide) (by simpa using hm)
end
end Go.Proofs.Ytomclflknjkhfaa
