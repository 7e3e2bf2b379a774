/- below B, but for some blocks, nothing has changed. -/
import Derived.Test.YtlpcddmcddenfaaK
import Derived.Laws.AppendOwnNone
namespace Go.Proofs.Ytlpcddmcddenfaa
open Go.RowKit

/-- below B, but for the blocks S, nothing has changed. -/
structure FrB (B : Nat) (S : List Nat) (w w' : World) : Prop where
  os : w'.os = w.os
  tape : w'.tape = w.tape
  output : w'.output = w.output
  size : w.heap.size ≤ w'.heap.size
  block : ∀ k, k < B → k ∉ S → w'.heap[k]? = w.heap[k]?
theorem FrB.refl (B : Nat) (S : List Nat) (w : World) : FrB B S w w := ⟨rfl, rfl, rfl, Nat.le_refl _, fun _ _ _ => rfl⟩
theorem FrB.trans {B : Nat} {S : List Nat} {w w1 w2 : World} (h : FrB B S w w1) (k : FrB B S w1 w2) : FrB B S w w2 :=
  ⟨k.os.trans h.os, k.tape.trans h.tape, k.output.trans h.output, Nat.le_trans h.size k.size, fun i hi hn => (k.block i hi hn).trans (h.block i hi hn)⟩
theorem FrB.of_below {B : Nat} {S : List Nat} {w w' : World} (h : Below B w w') : FrB B S w w' := ⟨h.os, h.tape, h.output, h.size, fun k hk _ => h.block k hk⟩
theorem FrB.setCell {B : Nat} {S : List Nat} (w : World) (b i : Nat) (v : Value) (hb : b ∈ S) : FrB B S w (w.setCell ⟨b, i, none⟩ v) :=
  ⟨rfl, rfl, rfl, by simp [World.setCell], fun k _ hn => Below.heap_setCell _ _ _ _ (fun e => hn (by rw [e]; exact hb))⟩
theorem Blk.frB {w w' : World} {b B : Nat} {cs : Array Value} {T : TypeId} (h : Blk w b cs T) {S : List Nat} (hf : FrB B S w w') (hl : b < B) (hn : b ∉ S) : Blk w' b cs T := by
  unfold Blk at h ⊢; rw [hf.block b hl hn]; exact h
theorem FrB.grown {B : Nat} {S : List Nat} {w W w' : World} {row : Option Nat} (h : FrB B S w W) (hg : W.grownBy w' row) (hB : B ≤ W.heap.size) (hr : ∀ k, row = some k → B ≤ k) : FrB B S w w' :=
  h.trans ⟨hg.os, hg.tape, hg.output, hg.size, fun k hk _ => hg.block k (by omega) (fun e => by have := hr k e.symm; omega)⟩
theorem FrB.alloc {B : Nat} {S : List Nat} {w W : World} (h : FrB B S w W) (hB : B ≤ W.heap.size) (o : Obj) : FrB B S w (W.alloc o) :=
  h.trans ⟨rfl, rfl, rfl, by simp, fun k hk _ => Below.heap_alloc _ _ _ (by omega)⟩
theorem FrB.drew {B : Nat} {S : List Nat} {w W : World} (h : FrB B S w W) : FrB B S w W.drew := ⟨h.os, h.tape, h.output, h.size, h.block⟩
theorem FrB.fr {B : Nat} {S S' : List Nat} {w w' : World} (h : FrB B S w w') (hS : ∀ k, k < w.heap.size → k ∉ S' → k < B ∧ k ∉ S) : Fr S' w w' :=
  ⟨h.os, h.tape, h.output, h.size, fun k hk hn => h.block k (hS k hk hn).1 (hS k hk hn).2⟩
theorem Blk.grown {W W' : World} {b : Nat} {cs : Array Value} {T : TypeId} {row : Option Nat} (h : Blk W b cs T) (hg : W.grownBy W' row) (hne : some b ≠ row) : Blk W' b cs T := by
  have hl := h.lt
  unfold Blk at h ⊢; rw [hg.block b hl hne]; exact h
theorem Blk.drew {w : World} {b : Nat} {cs : Array Value} {T : TypeId} (h : Blk w b cs T) : Blk w.drew b cs T := h
theorem news1 {W : World} {g : Nat} {u : Value} (h : W.cell? ⟨g, 0, none⟩ = some u) : ∀ j x, [u][j]? = some x → W.cell? ((⟨g, 0, none⟩ : Addr).add j) = some x := by
  intro j x hj
  cases j with
  | zero => simp at hj; subst hj; exact h
  | succ j => simp at hj
end Go.Proofs.Ytlpcddmcddenfaa
