/- B-trees as data: zzShape's rows. -/
import Derived.Test.YtjbelfbfhcmgeaaBtDD
import Derived.Test.YtjbelfbfhcmgeaaNRow
namespace Go.Proofs.Ytjbelfbfhcmgeaa.Kp
open Go.RowKit Om Bt

/-- a node as data. -/
structure KnD where
  leaf : Bool
  keys : List Int
  vals : List Int
  valid : List Bool
def shapeN {α : Type} (f : α → List KnD) (ks : List (Int × α)) : List KnD := ⟨false, ks.map Prod.fst, [], []⟩ :: ks.flatMap (fun e => f e.2)
def leafD (es : List LE) : KnD := ⟨true, es.map (fun e => e.1), es.map (fun e => e.2.1), es.map (fun e => e.2.2)⟩
def shapeE : (h : Nat) → BE h → List KnD
  | 0, es => [leafD es]
  | h + 1, ks => shapeN (shapeE h) ks
abbrev boolv (b : Bool) : Value := .bool b
/-- blocks of a type stay. -/
def KeepT (T : TypeId) (w w' : World) : Prop := ∀ b cur, Blk w b cur T → Blk w' b cur T
theorem KeepT.refl (T : TypeId) (w : World) : KeepT T w w := fun _ _ h => h
theorem KeepT.trans {T : TypeId} {a b c : World} (h : KeepT T a b) (k : KeepT T b c) : KeepT T a c := fun x cur hb => k x cur (h x cur hb)
theorem KeepT.below {T : TypeId} {w w' : World} (hb : Below w.heap.size w w') : KeepT T w w' := fun _ _ h => h.below hb h.lt
theorem KeepT.grown {T e : TypeId} {w w' : World} {B s n : Nat} {v : Value} {xs : List Value} (ho : w.ownsRow B e s v n xs) (hg : w.grownBy w' v.ownBlock) (hT : e ≠ T) : KeepT T w w' := fun _ _ h => kd_grown h ho hg (fun e' => hT e'.symm)
/-- a slice of bools, nil or in a block of bools. -/
structure NB (w : World) (v : Value) (xs : List Bool) : Prop where
  is : (v = .slice none 0 0 ∧ xs = []) ∨ ∃ b off c cur, v = .slice (some ⟨b, off, none⟩) xs.length c ∧ xs.length ≤ c ∧ c ≤ 9223372036854775807 ∧ Blk w b cur 4 ∧ ∀ (i : Nat) x, xs[i]? = some x → cur[off + i]? = some (.bool x)
theorem NB.nil (w : World) : NB w (.slice none 0 0) [] := ⟨.inl ⟨rfl, rfl⟩⟩
theorem NB.keep {w w' : World} {v : Value} {xs : List Bool} (h : NB w v xs) (k : KeepT 4 w w') : NB w' v xs := by
  rcases h.is with h | ⟨b, off, c, cur, e, h1, h2, h3, h4⟩
  · exact ⟨.inl h⟩
  · exact ⟨.inr ⟨b, off, c, cur, e, h1, h2, k _ _ h3, h4⟩⟩
theorem own_NB {w : World} {B n : Nat} {v : Value} {xs : List Bool} (hn : xs.length = n) (h : w.ownsRow B 4 1 v n (xs.map boolv)) : NB w v xs := by
  subst hn
  rcases h.2 with ⟨e, h0⟩ | ⟨g, cap, cur, e, h1, h2, h3, h4, h5, h6⟩
  · exact ⟨.inl ⟨e.trans (by rfl), List.length_eq_zero_iff.1 h0⟩⟩
  · refine ⟨.inr ⟨g, 0, cap, cur, e, h3, by unfold maxLen at h4; omega, h2, fun i x hi => ?_⟩⟩
    have hil : i < xs.length := (List.getElem?_eq_some_iff.1 hi).1
    have : (xs.map boolv)[i]? = some (.bool x) := by rw [List.getElem?_map, hi]; rfl
    rw [← h6, List.getElem?_take_of_lt (by omega)] at this
    rw [Nat.zero_add, ← this]; simp
/-- nodes as they lie. -/
def ZS (w : World) : List KnD → List Value → Prop
  | [], cs => cs = []
  | d :: ds, cs => ∃ ka va ba rest, cs = .bool d.leaf :: ka :: va :: ba :: rest ∧ NS w ka d.keys ∧ NS w va d.vals ∧ NB w ba d.valid ∧ ZS w ds rest
theorem ZS.keep {w w' : World} (h : KeepI w w') (k : KeepT 4 w w') : ∀ {ds : List KnD} {cs : List Value}, ZS w ds cs → ZS w' ds cs
  | [], _, ht => ht
  | _ :: _, _, ⟨ka, va, ba, rest, e, h1, h2, h3, h4⟩ => ⟨ka, va, ba, rest, e, h1.keep h, h2.keep h, h3.keep k, h4.keep h k⟩
theorem ZS.snoc {w : World} {d : KnD} {ka va ba : Value} (h1 : NS w ka d.keys) (h2 : NS w va d.vals) (h3 : NB w ba d.valid) : ∀ {ds : List KnD} {cs : List Value}, ZS w ds cs → ZS w (ds ++ [d]) (cs ++ [.bool d.leaf, ka, va, ba])
  | [], _, h => by rw [h]; exact ⟨ka, va, ba, [], rfl, h1, h2, h3, rfl⟩
  | _ :: _, _, ⟨ka', va', ba', rest, e1, g1, g2, g3, g4⟩ => by rw [e1]; exact ⟨ka', va', ba', _, rfl, g1, g2, g3, ZS.snoc h1 h2 h3 g4⟩
theorem ZS.at_ {w : World} : ∀ {ds : List KnD} {cs : List Value} {i : Nat} {d : KnD}, ZS w ds cs → ds[i]? = some d → ∃ ka va ba, cs[i * 4]? = some (.bool d.leaf) ∧ cs[i * 4 + 1]? = some ka ∧ cs[i * 4 + 2]? = some va ∧ cs[i * 4 + 3]? = some ba ∧ NS w ka d.keys ∧ NS w va d.vals ∧ NB w ba d.valid
  | [], _, _, _, _, h => by simp at h
  | _ :: _, cs, 0, d, ⟨ka, va, ba, rest, e, h1, h2, h3, _⟩, h => by simp at h; subst h; rw [e]; exact ⟨ka, va, ba, rfl, rfl, rfl, rfl, h1, h2, h3⟩
  | _ :: ds, cs, i + 1, d, ⟨ka, va, ba, rest, e, _, _, _, h4⟩, h => by
    have := ZS.at_ h4 (by simpa using h)
    rw [e, show (i + 1) * 4 = i * 4 + 1 + 1 + 1 + 1 by omega]
    exact this
/-- the node that is being written, in its block. -/
structure ZI (w : World) (zb : Nat) (leaf : Bool) (ks vs : List Int) (bs : List Bool) (ka va ba : Value) (wx : World) : Prop where
  blk : Blk wx zb #[.bool leaf, ka, va, ba] 68
  k : wx.ownsRow w.heap.size 3 1 ka ks.length (ks.map i64v)
  v : wx.ownsRow w.heap.size 3 1 va vs.length (vs.map i64v)
  b : wx.ownsRow w.heap.size 4 1 ba bs.length (bs.map boolv)
  ap : ka.ownBlock = none ∨ ka.ownBlock ≠ va.ownBlock
  bel : Below w.heap.size w wx
  ge : w.heap.size ≤ zb
section
variable {w wx : World} {zb : Nat} {leaf : Bool} {ks vs : List Int} {bs : List Bool} {ka va ba : Value}
theorem ZI.alloc (h : ZI w zb leaf ks vs bs ka va ba wx) (o : Obj) : ZI w zb leaf ks vs bs ka va ba (wx.alloc o).drew :=
  ⟨h.blk.alloc o, (h.k.alloc o).drew, (h.v.alloc o).drew, (h.b.alloc o).drew, h.ap, (h.bel.alloc h.bel.size o).drew, h.ge⟩
theorem ZI.drewN (h : ZI w zb leaf ks vs bs ka va ba wx) (n : Nat) : ZI w zb leaf ks vs bs ka va ba (wx.drewN n) :=
  ⟨h.blk.drewN n, h.k, h.v, h.b, h.ap, h.bel.trans (Below.drewN _ _), h.ge⟩
theorem ZI.key {w1 : World} {gg cap : Nat} {x : Int} (h : ZI w zb leaf ks vs bs ka va ba wx) (ho : w1.ownsRow w.heap.size 3 1 (.slice (some ⟨gg, 0, none⟩) (ks.length + 1) cap) (ks.length + 1) (ks.map i64v ++ [.int .i64 x])) (hg : wx.grownBy w1 ka.ownBlock) (hat : ka.ownBlock = some gg ∨ gg = wx.heap.size) :
    ZI w zb leaf (ks ++ [x]) vs bs (.slice (some ⟨gg, 0, none⟩) (ks.length + 1) cap) va ba (w1.setCell ⟨zb, 1, none⟩ (.slice (some ⟨gg, 0, none⟩) (ks.length + 1) cap)) := by
  have hz : Blk w1 zb _ _ := kd_grown h.blk h.k hg (by decide)
  have hap : va.ownBlock = none ∨ va.ownBlock ≠ ka.ownBlock := by
    rcases h.ap with e | e
    · rw [e]; cases va.ownBlock <;> simp
    · exact .inr (Ne.symm e)
  have hv1 := h.v.kept hg hap
  have hb1 : w1.ownsRow w.heap.size 4 1 ba bs.length (bs.map boolv) := h.b.kept hg (by
    cases hx : ba.ownBlock with
    | none => exact .inl rfl
    | some g =>
      refine .inr (fun e => ?_)
      obtain ⟨cur, hc⟩ := own_type h.b g hx
      obtain ⟨cur', hc'⟩ := own_type h.k g e.symm
      exact absurd (Blk.ty hc hc') (by decide))
  refine ⟨hz.set 1 _, ?_, kd_set hz hv1 (by decide), kd_set hz hb1 (by decide), ?_, (h.bel.grown hg h.bel.size (fun g hg => (h.k.lt g hg).1)).setCell h.ge _, h.ge⟩
  · have := kd_set (i := 1) (u := .slice (some ⟨gg, 0, none⟩) (ks.length + 1) cap) hz ho (by decide)
    rw [List.map_append, List.length_append]; exact this
  · right
    intro e
    have e' : va.ownBlock = some gg := e.symm
    rcases hat with h1 | h1
    · rcases hap with h2 | h2
      · rw [h2] at e'; cases e'
      · exact h2 (e'.trans h1.symm)
    · have := (h.v.lt _ e').2; omega
theorem ZI.val {w1 : World} {gg cap : Nat} {x : Int} (h : ZI w zb leaf ks vs bs ka va ba wx) (ho : w1.ownsRow w.heap.size 3 1 (.slice (some ⟨gg, 0, none⟩) (vs.length + 1) cap) (vs.length + 1) (vs.map i64v ++ [.int .i64 x])) (hg : wx.grownBy w1 va.ownBlock) (hat : va.ownBlock = some gg ∨ gg = wx.heap.size) :
    ZI w zb leaf ks (vs ++ [x]) bs ka (.slice (some ⟨gg, 0, none⟩) (vs.length + 1) cap) ba (w1.setCell ⟨zb, 2, none⟩ (.slice (some ⟨gg, 0, none⟩) (vs.length + 1) cap)) := by
  have hz : Blk w1 zb _ _ := kd_grown h.blk h.v hg (by decide)
  have hk1 := h.k.kept hg h.ap
  have hb1 : w1.ownsRow w.heap.size 4 1 ba bs.length (bs.map boolv) := h.b.kept hg (by
    cases hx : ba.ownBlock with
    | none => exact .inl rfl
    | some g =>
      refine .inr (fun e => ?_)
      obtain ⟨cur, hc⟩ := own_type h.b g hx
      obtain ⟨cur', hc'⟩ := own_type h.v g e.symm
      exact absurd (Blk.ty hc hc') (by decide))
  refine ⟨hz.set 2 _, kd_set hz hk1 (by decide), ?_, kd_set hz hb1 (by decide), ?_, (h.bel.grown hg h.bel.size (fun g hg => (h.v.lt g hg).1)).setCell h.ge _, h.ge⟩
  · have := kd_set (i := 2) (u := .slice (some ⟨gg, 0, none⟩) (vs.length + 1) cap) hz ho (by decide)
    rw [List.map_append, List.length_append]; exact this
  · rcases h.ap with e | e
    · exact .inl e
    · cases hx : ka.ownBlock with
      | none => exact .inl rfl
      | some g =>
        right
        intro e2
        have e' : g = gg := by simpa [Value.ownBlock] using e2
        subst e'
        rcases hat with h1 | h1
        · exact e (hx.trans h1.symm)
        · have := (h.k.lt _ hx).2; omega
theorem ZI.bool {w1 : World} {gg cap : Nat} {x : Bool} (h : ZI w zb leaf ks vs bs ka va ba wx) (ho : w1.ownsRow w.heap.size 4 1 (.slice (some ⟨gg, 0, none⟩) (bs.length + 1) cap) (bs.length + 1) (bs.map boolv ++ [.bool x])) (hg : wx.grownBy w1 ba.ownBlock) :
    ZI w zb leaf ks vs (bs ++ [x]) ka va (.slice (some ⟨gg, 0, none⟩) (bs.length + 1) cap) (w1.setCell ⟨zb, 3, none⟩ (.slice (some ⟨gg, 0, none⟩) (bs.length + 1) cap)) := by
  have hz : Blk w1 zb _ _ := kd_grown h.blk h.b hg (by decide)
  have far : ∀ {u : Value} {n : Nat} {xs : List Value}, wx.ownsRow w.heap.size 3 1 u n xs → w1.ownsRow w.heap.size 3 1 u n xs := fun {u n xs} hu => hu.kept hg (by
    cases hx : u.ownBlock with
    | none => exact .inl rfl
    | some g =>
      refine .inr (fun e => ?_)
      obtain ⟨cur, hc⟩ := own_type hu g hx
      obtain ⟨cur', hc'⟩ := own_type h.b g e.symm
      exact absurd (Blk.ty hc hc') (by decide))
  refine ⟨hz.set 3 _, kd_set hz (far h.k) (by decide), kd_set hz (far h.v) (by decide), ?_, h.ap, (h.bel.grown hg h.bel.size (fun g hg => (h.b.lt g hg).1)).setCell h.ge _, h.ge⟩
  have := kd_set (i := 3) (u := .slice (some ⟨gg, 0, none⟩) (bs.length + 1) cap) hz ho (by decide)
  rw [List.map_append, List.length_append]; exact this
end
end Go.Proofs.Ytjbelfbfhcmgeaa.Kp
