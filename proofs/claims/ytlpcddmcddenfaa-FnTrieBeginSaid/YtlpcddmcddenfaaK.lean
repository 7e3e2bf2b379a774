/- The ground of this seat's walks: blocks of memory, frames, slices of ints; no program in sight. -/
import Derived.WalkKit
import Derived.Deep.QuietTactic
import Derived.BigQuiet
import Derived.Deep.DeepCutAuto
namespace Go.Proofs.Ytlpcddmcddenfaa
open Go.RowKit

/-- a block that holds cells, none frozen. -/
def Blk (w : World) (b : Nat) (cs : Array Value) (T : TypeId) : Prop := w.heap[b]? = some (.cells cs T (0, 0))
/-- behind a call that may write into the blocks S and make new ones. -/
structure Fr (S : List Nat) (w w' : World) : Prop where
  os : w'.os = w.os
  tape : w'.tape = w.tape
  output : w'.output = w.output
  size : w.heap.size ≤ w'.heap.size
  block : ∀ k, k < w.heap.size → k ∉ S → w'.heap[k]? = w.heap[k]?
theorem Fr.refl (S : List Nat) (w : World) : Fr S w w := ⟨rfl, rfl, rfl, Nat.le_refl _, fun _ _ _ => rfl⟩
theorem Fr.drewN (S : List Nat) (w : World) (n : Nat) : Fr S w (w.drewN n) := ⟨rfl, rfl, rfl, Nat.le_refl _, fun _ _ _ => rfl⟩
theorem Fr.trans {S S1 S2 : List Nat} {w w1 w2 : World} (h : Fr S1 w w1) (k : Fr S2 w1 w2) (h1 : ∀ x ∈ S1, x ∈ S ∨ w.heap.size ≤ x) (h2 : ∀ x ∈ S2, x ∈ S ∨ w.heap.size ≤ x) : Fr S w w2 :=
  ⟨k.os.trans h.os, k.tape.trans h.tape, k.output.trans h.output, Nat.le_trans h.size k.size, fun i hi hn =>
    (k.block i (Nat.lt_of_lt_of_le hi h.size) (fun hx => (h2 i hx).elim hn (fun hle => absurd hi (Nat.not_lt.2 hle)))).trans
      (h.block i hi (fun hx => (h1 i hx).elim hn (fun hle => absurd hi (Nat.not_lt.2 hle))))⟩
theorem Fr.mono {S S1 : List Nat} {w w1 : World} (h : Fr S1 w w1) (h1 : ∀ x ∈ S1, x ∈ S ∨ w.heap.size ≤ x) : Fr S w w1 := h.trans (Fr.refl S w1) h1 (fun _ hx => .inl hx)
theorem Fr.comp {S : List Nat} {w w1 w2 : World} (h : Fr S w w1) (k : Fr S w1 w2) : Fr S w w2 := h.trans k (fun _ hx => .inl hx) (fun _ hx => .inl hx)
theorem Fr.setCell {S : List Nat} (w : World) (b i : Nat) (v : Value) (hb : b ∈ S) : Fr S w (w.setCell ⟨b, i, none⟩ v) :=
  ⟨rfl, rfl, rfl, by simp [World.setCell], fun k _ hn => Below.heap_setCell _ _ _ _ (fun e => hn (by rw [e]; exact hb))⟩
theorem Fr.alloc (S : List Nat) (w : World) (o : Obj) : Fr S w (w.alloc o) := ⟨rfl, rfl, rfl, by simp, fun k hk _ => Below.heap_alloc _ _ _ hk⟩
theorem Fr.below {S : List Nat} {B : Nat} {w w' : World} (h : Fr S w w') (hS : ∀ x ∈ S, B ≤ x) (hB : B ≤ w.heap.size) : Below B w w' :=
  ⟨h.os, h.tape, h.output, h.size, fun k hk => h.block k (Nat.lt_of_lt_of_le hk hB) (fun hx => absurd hk (Nat.not_lt.2 (hS k hx)))⟩
theorem Fr.of_below {S : List Nat} {w w' : World} (h : Below w.heap.size w w') : Fr S w w' := ⟨h.os, h.tape, h.output, h.size, fun k hk _ => h.block k hk⟩
theorem Fr.cell {S : List Nat} {w w' : World} (h : Fr S w w') {a : Addr} {v : Value} (hc : w.cell? a = some v) (hn : a.block ∉ S) : w'.cell? a = some v :=
  (World.cell?_of_block (w := w) (h.block a.block (World.block_lt_of_cell? w a hc) hn)).trans hc
theorem Fr.frozen {S : List Nat} {w w' : World} (h : Fr S w w') {a : Addr} (hl : a.block < w.heap.size) (hn : a.block ∉ S) : w'.frozen? a = w.frozen? a :=
  World.frozen?_of_block (w := w) (h.block a.block hl hn)

theorem Blk.lt {w : World} {b : Nat} {cs : Array Value} {T : TypeId} (h : Blk w b cs T) : b < w.heap.size := (Array.getElem?_eq_some_iff.1 h).1
theorem Blk.cell {w : World} {b : Nat} {cs : Array Value} {T : TypeId} (h : Blk w b cs T) (i : Nat) : w.cell? ⟨b, i, none⟩ = cs[i]? := by
  unfold Blk at h; simp [World.cell?, h]
theorem Blk.frozen {w : World} {b : Nat} {cs : Array Value} {T : TypeId} (h : Blk w b cs T) (i : Nat) : w.frozen? ⟨b, i, none⟩ = false := by
  unfold Blk at h; simp [World.frozen?, h]
theorem Blk.set {w : World} {b : Nat} {cs : Array Value} {T : TypeId} (h : Blk w b cs T) (i : Nat) (v : Value) : Blk (w.setCell ⟨b, i, none⟩ v) b (cs.setIfInBounds i v) T := by
  unfold Blk at h ⊢; simp [World.setCell, Array.getElem?_modify, h]
theorem Blk.far {w : World} {b : Nat} {cs : Array Value} {T : TypeId} (h : Blk w b cs T) {c i : Nat} {v : Value} (hne : b ≠ c) : Blk (w.setCell ⟨c, i, none⟩ v) b cs T := by
  unfold Blk at h ⊢; rw [Below.heap_setCell _ _ _ _ (by exact hne)]; exact h
theorem Blk.alloc {w : World} {b : Nat} {cs : Array Value} {T : TypeId} (h : Blk w b cs T) (o : Obj) : Blk (w.alloc o) b cs T := by
  have hl := h.lt
  unfold Blk at h ⊢; rw [Below.heap_alloc _ _ _ hl]; exact h
theorem Blk.new (w : World) (cs : Array Value) (T : TypeId) : Blk (w.alloc (.cells cs T)) w.heap.size cs T := by
  show (w.heap.push _)[w.heap.size]? = _; rw [Array.getElem?_push, if_pos rfl]
theorem Blk.fr {w w' : World} {b : Nat} {cs : Array Value} {T : TypeId} (h : Blk w b cs T) {S : List Nat} (hf : Fr S w w') (hn : b ∉ S) : Blk w' b cs T := by
  have hl := h.lt
  unfold Blk at h ⊢; rw [hf.block b hl hn]; exact h
theorem Blk.drewN {w : World} {b : Nat} {cs : Array Value} {T : TypeId} (h : Blk w b cs T) (n : Nat) : Blk (w.drewN n) b cs T := h
theorem Blk.below {w w' : World} {b B : Nat} {cs : Array Value} {T : TypeId} (h : Blk w b cs T) (hf : Below B w w') (hn : b < B) : Blk w' b cs T := by
  unfold Blk at h ⊢; rw [hf.block b hn]; exact h

/-- an int. -/
abbrev i64v (n : Int) : Value := .int .i64 n
def Int64 (n : Int) : Prop := -9223372036854775808 ≤ n ∧ n ≤ 9223372036854775807
/-- a slice value that reads as a list of values, one cell each, in blocks below B. -/
structure SlR (w : World) (B : Nat) (v : Value) (xs : List Value) : Prop where
  is : ∃ A cap, v = .slice A xs.length cap ∧ (xs = [] ∨ ∃ b off, A = some ⟨b, off, none⟩ ∧ xs.length ≤ cap ∧ xs.length ≤ 17592186044416 ∧ b < B ∧ b < w.heap.size ∧ ∀ i, i < xs.length → w.cell? ⟨b, off + i, none⟩ = xs[i]?)
theorem SlR.below {w w' : World} {B : Nat} {v : Value} {xs : List Value} (h : SlR w B v xs) (hb : Below B w w') : SlR w' B v xs := by
  obtain ⟨A, cap, e, h⟩ := h.is
  refine ⟨A, cap, e, h.imp id ?_⟩
  rintro ⟨b, off, e, h1, h2, h3, h4, h5⟩
  exact ⟨b, off, e, h1, h2, h3, Nat.lt_of_lt_of_le h4 hb.size, fun i hi => (hb.cell (p := ⟨b, off + i, none⟩) h3).trans (h5 i hi)⟩
theorem SlR.mono {w : World} {B B' : Nat} {v : Value} {xs : List Value} (h : SlR w B v xs) (hB : B ≤ B') : SlR w B' v xs := by
  obtain ⟨A, cap, e, h⟩ := h.is
  refine ⟨A, cap, e, h.imp id ?_⟩
  rintro ⟨b, off, e, h1, h2, h3, h4, h5⟩
  exact ⟨b, off, e, h1, h2, Nat.lt_of_lt_of_le h3 hB, h4, h5⟩
theorem SlR.form {w : World} {B : Nat} {v : Value} {xs : List Value} (h : SlR w B v xs) : ∃ A c, v = .slice A xs.length c := by
  obtain ⟨A, cap, e, _⟩ := h.is
  exact ⟨A, cap, e⟩
theorem SlR.drewN {w : World} {B : Nat} {v : Value} {xs : List Value} (h : SlR w B v xs) (n : Nat) : SlR (w.drewN n) B v xs := ⟨h.is⟩
theorem Below.drewN {B : Nat} (w : World) (n : Nat) : Below B w (w.drewN n) := ⟨rfl, rfl, rfl, Nat.le_refl _, fun _ _ => rfl⟩
end Go.Proofs.Ytlpcddmcddenfaa
