/- B-trees in memory: nodes in blocks of 257 cells. B-trees in memory: trees of nodes. -/
import Derived.Test.YtjbelfbfhcmgeaaBtA
import Derived.Test.YtjbelfbfhcmgeaaOrd
import Derived.Deep.MidRow
import Derived.Great.Walk
import Derived.Deep.LoopGhost
namespace Go.Proofs.Ytjbelfbfhcmgeaa.Kp
open Go.RowKit Bt

/-- an entry, as it lies. -/
structure Ent where
  key : Int
  val : Int
  valid : Bool
  next : Option Addr
def Ent.cells (e : Ent) : List Value := [.int .i64 e.key, .int .i64 e.val, .bool e.valid, .pointer e.next]
/-- the cells of a node. -/
structure NC (cs : Array Value) (rows : List Ent) : Prop where
  size : cs.size = 257
  one : ∀ (i : Nat) (u : Value), cs[i]? = some u → u.oneCell' = true
  m : cs[0]? = some (.int .i64 (rows.length : Nat))
  row : ∀ (i : Nat) e, rows[i]? = some e → cs[1 + i * 4]? = some (.int .i64 e.key) ∧ cs[1 + i * 4 + 1]? = some (.int .i64 e.val) ∧ cs[1 + i * 4 + 2]? = some (.bool e.valid) ∧ cs[1 + i * 4 + 3]? = some (.pointer e.next)
  len : rows.length ≤ 64
/-- a node in memory. -/
structure ND (w : World) (b : Nat) (rows : List Ent) : Prop where
  is : ∃ cs, Blk w b cs 87 ∧ NC cs rows
theorem ND.lt {w : World} {b : Nat} {rows : List Ent} (h : ND w b rows) : b < w.heap.size := by
  obtain ⟨cs, hb, _⟩ := h.is; exact hb.lt
theorem ND.below {w w' : World} {B b : Nat} {rows : List Ent} (h : ND w b rows) (hb : Below B w w') (hl : b < B) : ND w' b rows := by
  obtain ⟨cs, h1, h2⟩ := h.is; exact ⟨cs, h1.below hb hl, h2⟩
theorem ND.fr {w w' : World} {S : List Nat} {b : Nat} {rows : List Ent} (h : ND w b rows) (hf : Fr S w w') (hl : b ∉ S) : ND w' b rows := by
  obtain ⟨cs, h1, h2⟩ := h.is; exact ⟨cs, h1.fr hf hl, h2⟩
theorem ND.m {w : World} {b : Nat} {rows : List Ent} (h : ND w b rows) : w.cell? ⟨b, 0, none⟩ = some (.int .i64 (rows.length : Nat)) := by
  obtain ⟨cs, h1, h2⟩ := h.is; rw [h1.cell]; exact h2.m
theorem ND.frozen {w : World} {b : Nat} {rows : List Ent} (h : ND w b rows) (i : Nat) : w.frozen? ⟨b, i, none⟩ = false := by
  obtain ⟨cs, h1, h2⟩ := h.is; exact h1.frozen i
theorem ND.len {w : World} {b : Nat} {rows : List Ent} (h : ND w b rows) : rows.length ≤ 64 := by
  obtain ⟨cs, h1, h2⟩ := h.is; exact h2.len
theorem ND.row {w : World} {b : Nat} {rows : List Ent} (h : ND w b rows) {i : Nat} {e : Ent} (hi : rows[i]? = some e) :
    w.cell? ⟨b, 1 + i * 4, none⟩ = some (.int .i64 e.key) ∧ w.cell? ⟨b, 1 + i * 4 + 1, none⟩ = some (.int .i64 e.val) ∧ w.cell? ⟨b, 1 + i * 4 + 2, none⟩ = some (.bool e.valid) ∧ w.cell? ⟨b, 1 + i * 4 + 3, none⟩ = some (.pointer e.next) := by
  obtain ⟨cs, h1, h2⟩ := h.is
  rw [h1.cell, h1.cell, h1.cell, h1.cell]
  exact h2.row i e hi
/-- a place for an entry, whatever lies there. -/
theorem ND.room {w : World} {b : Nat} {rows : List Ent} (h : ND w b rows) {i : Nat} (hi : i < 64) :
    ∃ u0 u1 u2 u3, w.cell? ⟨b, 1 + i * 4, none⟩ = some u0 ∧ w.cell? ⟨b, 1 + i * 4 + 1, none⟩ = some u1 ∧ w.cell? ⟨b, 1 + i * 4 + 2, none⟩ = some u2 ∧ w.cell? ⟨b, 1 + i * 4 + 3, none⟩ = some u3 := by
  obtain ⟨cs, h1, h2⟩ := h.is
  have := h2.size
  rw [h1.cell, h1.cell, h1.cell, h1.cell]
  exact ⟨_, _, _, _, Array.getElem?_eq_getElem (by omega), Array.getElem?_eq_getElem (by omega), Array.getElem?_eq_getElem (by omega), Array.getElem?_eq_getElem (by omega)⟩
/-- the 256 cells of the parts. -/
theorem ND.parts {w : World} {b : Nat} {rows : List Ent} (h : ND w b rows) : ∃ ps : List Value, ps.length = 256 ∧ (∀ v ∈ ps, v.oneCell' = true) ∧ w.rangeAt b 1 ps ∧
    ∀ (i : Nat) e, rows[i]? = some e → ps[i * 4]? = some (.int .i64 e.key) ∧ ps[i * 4 + 1]? = some (.int .i64 e.val) ∧ ps[i * 4 + 2]? = some (.bool e.valid) ∧ ps[i * 4 + 3]? = some (.pointer e.next) := by
  obtain ⟨cs, h1, h2⟩ := h.is
  have hs := h2.size
  refine ⟨cs.toList.drop 1, by simp [hs], ?_, ?_, ?_⟩
  · intro v hv
    have := List.mem_of_mem_drop hv
    obtain ⟨i, hi, e⟩ := List.mem_iff_getElem.1 this
    exact h2.one i v (by rw [← Array.getElem?_toList, ← e]; exact List.getElem?_eq_getElem hi)
  · intro j v hv
    rw [h1.cell, ← Array.getElem?_toList]
    rwa [List.getElem?_drop] at hv
  · intro i e he
    obtain ⟨a0, a1, a2, a3⟩ := h2.row i e he
    rw [List.getElem?_drop, List.getElem?_drop, List.getElem?_drop, List.getElem?_drop, Array.getElem?_toList, Array.getElem?_toList, Array.getElem?_toList, Array.getElem?_toList]
    exact ⟨a0, by rw [show 1 + (i * 4 + 1) = 1 + i * 4 + 1 by omega]; exact a1, by rw [show 1 + (i * 4 + 2) = 1 + i * 4 + 2 by omega]; exact a2, by rw [show 1 + (i * 4 + 3) = 1 + i * 4 + 3 by omega]; exact a3⟩
theorem Try.info64 : (Try.prog.info? 85).map (·.size) = some 256 := by kernel_rfl
theorem z64_size : Try.zeroCells85.size = 256 := by kernel_rfl
theorem z257_size : Try.zeroCells87.size = 257 := by kernel_rfl
theorem fr_setCells (b : Nat) : ∀ (vs : List Value) (o : Nat) (w : World), Fr [b] w (w.setCells b o vs) ∧ (w.setCells b o vs).heap.size = w.heap.size
  | [], _, w => ⟨Fr.refl _ _, rfl⟩
  | v :: r, o, w => by
    rw [World.setCells]
    obtain ⟨h1, h2⟩ := fr_setCells b r (o + 1) (w.setCell ⟨b, o, none⟩ v)
    exact ⟨(Fr.setCell w b o v (by simp)).comp h1, by rw [h2]; simp [World.setCell]⟩
/-- a row of parts, copied to a block of its own. -/
theorem copy_new (w : World) (ps : List Value) (hp : ps.length = 256) :
    let W := (w.alloc (.cells Try.zeroCells85 85)).setCells w.heap.size 0 ps
    (∀ j v, ps[j]? = some v → W.cell? ⟨w.heap.size, j, none⟩ = some v) ∧ Below w.heap.size w W ∧ W.heap.size = w.heap.size + 1 := by
  have hb := Blk.new w Try.zeroCells85 85
  have ht : (w.alloc (.cells Try.zeroCells85 85)).there w.heap.size 0 ps.length := fun j hj => ⟨by
    rw [hb.cell, Array.getElem?_eq_getElem (by rw [z64_size]; omega)]; rfl, hb.frozen _⟩
  refine ⟨fun j v hv => ?_, ?_, ?_⟩
  · have := World.rangeAt_setCells_same _ _ _ _ ht j v hv
    rwa [Nat.zero_add] at this
  · exact ((Below.refl _ w).alloc (Nat.le_refl _) _).trans ((fr_setCells _ ps 0 _).1.below (by simp) (by simp))
  · rw [(fr_setCells _ ps 0 _).2]; simp
theorem copy_there (w : World) : (w.alloc (.cells Try.zeroCells85 85)).there w.heap.size 0 256 := fun j hj => by
  have hb := Blk.new w Try.zeroCells85 85
  exact ⟨by rw [hb.cell, Array.getElem?_eq_getElem (by rw [z64_size]; omega)]; rfl, hb.frozen _⟩
end Go.Proofs.Ytjbelfbfhcmgeaa.Kp
namespace Go.Proofs.Ytjbelfbfhcmgeaa.Kp
open Go.RowKit Bt

def BN : Nat → Type
  | 0 => Nat × List LE
  | h + 1 => Nat × List (Int × BN h)
def BN.id : (h : Nat) → BN h → Nat
  | 0, t => Prod.fst (α := Nat) (β := List LE) t
  | h + 1, t => Prod.fst (α := Nat) (β := List (Int × BN h)) t
def erN {α β : Type} (f : α → β) (t : Nat × List (Int × α)) : List (Int × β) := t.2.map fun e => (e.1, f e.2)
def BN.er : (h : Nat) → BN h → BE h
  | 0, t => Prod.snd (α := Nat) (β := List LE) t
  | h + 1, t => erN (BN.er h) t
def idsN {α : Type} (f : α → List Nat) (t : Nat × List (Int × α)) : List Nat := t.1 :: t.2.flatMap fun e => f e.2
def BN.ids : (h : Nat) → BN h → List Nat
  | 0, t => [Prod.fst (α := Nat) (β := List LE) t]
  | h + 1, t => idsN (BN.ids h) t
def LeafIn (w : World) (t : Nat × List LE) : Prop := ∃ rows, ND w t.1 rows ∧ rows.map (fun r => (r.key, r.val, r.valid)) = t.2
def kidP {α : Type} (idf : α → Nat) (e : Int × α) : Int × Option Addr := (e.1, some ⟨idf e.2, 0, none⟩)
def InnerIn {α : Type} (w : World) (idf : α → Nat) (inf : α → Prop) (t : Nat × List (Int × α)) : Prop :=
  (∃ rows, ND w t.1 rows ∧ rows.map (fun r => (r.key, r.next)) = t.2.map (kidP idf)) ∧ ∀ e ∈ t.2, inf e.2
def BN.In (w : World) : (h : Nat) → BN h → Prop
  | 0, t => LeafIn w t
  | h + 1, t => InnerIn w (BN.id h) (BN.In w h) t
theorem BN.id_mem : ∀ (h : Nat) (t : BN h), BN.id h t ∈ BN.ids h t
  | 0, _ => List.mem_singleton.2 rfl
  | _ + 1, _ => List.mem_cons_self ..
theorem BN.In.fr {w w' : World} {S : List Nat} (hf : Fr S w w') : ∀ {h : Nat} {t : BN h}, BN.In w h t → (∀ i ∈ BN.ids h t, i ∉ S) → BN.In w' h t
  | 0, _, ⟨rows, h1, h2⟩, hn => ⟨rows, h1.fr hf (hn _ (List.mem_singleton.2 rfl)), h2⟩
  | h + 1, _, ⟨⟨rows, h1, h2⟩, h3⟩, hn => ⟨⟨rows, h1.fr hf (hn _ (List.mem_cons_self ..)), h2⟩, fun e he => BN.In.fr hf (h3 e he) (fun i hi => hn i (List.mem_cons_of_mem _ (List.mem_flatMap.2 ⟨e, he, hi⟩)))⟩
theorem BN.In.lt {w : World} : ∀ {h : Nat} {t : BN h}, BN.In w h t → ∀ i ∈ BN.ids h t, i < w.heap.size
  | 0, _, ⟨_, h1, _⟩, i, hi => by rw [List.mem_singleton.1 hi]; exact h1.lt
  | h + 1, _, ⟨⟨_, h1, _⟩, h3⟩, i, hi => by
    rcases List.mem_cons.1 hi with rfl | hi
    · exact h1.lt
    · obtain ⟨e, he, hi⟩ := List.mem_flatMap.1 hi
      exact BN.In.lt (h3 e he) i hi
theorem BN.In.below {w w' : World} (hb : Below w.heap.size w w') {h : Nat} {t : BN h} (hi : BN.In w h t) : BN.In w' h t := hi.fr (Fr.of_below (S := []) hb) (fun _ _ h => by cases h)
theorem lessOk_mono {w : World} {B B' : Nat} {f : Value} {xs : List Int} (h : LessOk w B f xs) (hB : B ≤ B') : LessOk w B' f xs := by
  obtain ⟨tb, tv, e, h1, h2, h3⟩ := h
  exact ⟨tb, tv, e, Nat.lt_of_lt_of_le h1 hB, h2, h3.mono hB⟩
theorem lessOk_drewN {w : World} {B : Nat} {f : Value} {xs : List Int} (h : LessOk w B f xs) (n : Nat) : LessOk (w.drewN n) B f xs := by
  obtain ⟨tb, tv, e, h1, h2, h3⟩ := h
  exact ⟨tb, tv, e, h1, h2, h3.drewN n⟩
/-- what a search reads. -/
structure SR (w : World) (tb : Nat) (f : Value) (xs : List Int) : Prop where
  less : w.cell? ⟨tb, 3, none⟩ = some f
  ok : LessOk w w.heap.size f xs
theorem SR.below {w w' : World} {tb : Nat} {f : Value} {xs : List Int} (h : SR w tb f xs) (hb : Below w.heap.size w w') : SR w' tb f xs :=
  ⟨(hb.cell (p := ⟨tb, 3, none⟩) (World.block_lt_of_cell? w _ h.less)).trans h.less, lessOk_mono (h.ok.below hb) hb.size⟩
theorem SR.drewN {w : World} {tb : Nat} {f : Value} {xs : List Int} (h : SR w tb f xs) (n : Nat) : SR (w.drewN n) tb f xs := ⟨h.less, lessOk_drewN h.ok n⟩
/-- the copy that a search reads. -/
structure CP (w : World) (b : Nat) (rows : List Ent) : Prop where
  row : ∀ (i : Nat) e, rows[i]? = some e → w.cell? ⟨b, i * 4, none⟩ = some (.int .i64 e.key) ∧ w.cell? ⟨b, i * 4 + 1, none⟩ = some (.int .i64 e.val) ∧ w.cell? ⟨b, i * 4 + 2, none⟩ = some (.bool e.valid) ∧ w.cell? ⟨b, i * 4 + 3, none⟩ = some (.pointer e.next)
theorem CP.drewN {w : World} {b : Nat} {rows : List Ent} (h : CP w b rows) (n : Nat) : CP (w.drewN n) b rows := ⟨h.row⟩
end Go.Proofs.Ytjbelfbfhcmgeaa.Kp
