/- Rows of one's own, and slices of one kind of cells, nil or in a block of that kind. -/
import Derived.Test.YtlpcddmcddenfaaK
import Derived.Test.YtlpcddmcddenfaaRow
import Derived.Test.YtlpcddmcddenfaaFrB
import Derived.Lib.Hide
import Derived.Deep.LoopGhost
import Derived.Deep.AppendLies
namespace Go.Proofs.Ytlpcddmcddenfaa.Kp
open Go.RowKit

theorem kd_weaken {w : World} {B B' : Nat} {e : TypeId} {s n : Nat} {v : Value} {xs : List Value} (h : w.ownsRow B' e s v n xs) (hB : B ≤ B') : w.ownsRow B e s v n xs := by
  refine ⟨h.1, h.2.imp id ?_⟩
  rintro ⟨g, cap, cur, e1, e2, e3⟩
  exact ⟨g, cap, cur, e1, Nat.le_trans hB e2, e3⟩
theorem kd_frB {w w' : World} {B B0 : Nat} {e : TypeId} {s n : Nat} {v : Value} {xs : List Value} {S : List Nat} (h : w.ownsRow B e s v n xs) (hf : FrB B0 S w w') (hS : ∀ b ∈ S, ∃ cs T, Blk w b cs T ∧ T ≠ e) (hB : w.heap.size ≤ B0) : w'.ownsRow B e s v n xs := by
  refine ⟨h.1, h.2.imp id ?_⟩
  rintro ⟨g, cap, cur, e1, e2, e3, e4⟩
  have hl : g < w.heap.size := (Array.getElem?_eq_some_iff.1 e3).1
  refine ⟨g, cap, cur, e1, e2, ?_, e4⟩
  rw [hf.block g (by omega) (fun hx => by
    obtain ⟨cs, T, hb, hT⟩ := hS g hx
    unfold Blk at hb
    rw [hb] at e3
    simp at e3
    exact hT e3.2)]
  exact e3
theorem kd_below {w w' : World} (hb : Below w.heap.size w w') {B s n : Nat} {T : TypeId} {v : Value} {xs : List Value} (ho : w.ownsRow B T s v n xs) : w'.ownsRow B T s v n xs :=
  kd_frB ho (FrB.of_below (S := []) hb) (fun _ h => by cases h) (Nat.le_refl _)
theorem kd_set {w : World} {b i : Nat} {cs : Array Value} {T : TypeId} {u : Value} (hb : Blk w b cs T) {B s n : Nat} {e : TypeId} {v : Value} {xs : List Value} (h : w.ownsRow B e s v n xs) (hT : T ≠ e) : (w.setCell ⟨b, i, none⟩ u).ownsRow B e s v n xs :=
  kd_frB h (FrB.setCell (B := w.heap.size) (S := [b]) w b i u (by simp)) (fun x hx => by rw [List.mem_singleton] at hx; subst hx; exact ⟨cs, T, hb, hT⟩) (Nat.le_refl _)
theorem kd_grown {w w' : World} {b : Nat} {cs : Array Value} {T : TypeId} (hb : Blk w b cs T) {B s n : Nat} {e : TypeId} {v : Value} {xs : List Value} (h : w.ownsRow B e s v n xs) (hg : w.grownBy w' v.ownBlock) (hT : T ≠ e) : Blk w' b cs T := by
  refine hb.grown hg (fun hx => ?_)
  rcases h.2 with ⟨e1, _⟩ | ⟨g, cap, cur, e1, h1, hc, _⟩
  · rw [e1] at hx; cases hx
  · rw [e1] at hx; cases hx
    unfold Blk at hb
    rw [hb] at hc
    simp at hc
    exact hT hc.2
theorem kd_form {w : World} {B : Nat} {T : TypeId} {s n : Nat} {v : Value} {xs : List Value} (h : w.ownsRow B T s v n xs) : ∃ A c, v = .slice A n c := by
  rcases h.2 with ⟨e, h0⟩ | ⟨g, cap, cur, e, _⟩
  · subst h0; exact ⟨_, _, e⟩
  · exact ⟨_, _, e⟩
theorem kd_news {W : World} {b : Nat} {cs : List Value} {T : TypeId} (h : Blk W b cs.toArray T) : ∀ j u, cs[j]? = some u → W.cell? ((⟨b, 0, none⟩ : Addr).add j) = some u := by
  intro j u hj
  have e : ((⟨b, 0, none⟩ : Addr).add j) = ⟨b, j, none⟩ := by unfold Addr.add; split <;> simp_all
  rw [e, h.cell j]
  simpa using hj
theorem kd_news3 (w : World) (o : Obj) (cs : List Value) (T : TypeId) : ∀ j u, cs[j]? = some u → ((w.alloc o).alloc (.cells cs.toArray T)).cell? ((⟨w.heap.size + 1, 0, none⟩ : Addr).add j) = some u := by
  have h := kd_news (Blk.new (w.alloc o) cs.toArray T)
  rw [show (w.alloc o).heap.size = w.heap.size + 1 by simp] at h
  exact h
theorem own_mt (w : World) (B : Nat) (hB : B ≤ w.heap.size) (T : TypeId) (s : Nat) : (w.alloc (.cells #[] T)).ownsRow B T s (.slice (some ⟨w.heap.size, 0, none⟩) 0 0) 0 [] :=
  ⟨by simp, .inr ⟨w.heap.size, 0, #[], rfl, hB, Blk.new w #[] T, Nat.le_refl _, by unfold maxLen; omega, by simp, by simp⟩⟩
/-- blocks of a type stay. -/
def KeepT (T : TypeId) (w w' : World) : Prop := ∀ b cur, Blk w b cur T → Blk w' b cur T
theorem KeepT.refl (T : TypeId) (w : World) : KeepT T w w := fun _ _ h => h
theorem KeepT.trans {T : TypeId} {a b c : World} (h : KeepT T a b) (k : KeepT T b c) : KeepT T a c := fun x cur hb => k x cur (h x cur hb)
theorem KeepT.below {T : TypeId} {w w' : World} (hb : Below w.heap.size w w') : KeepT T w w' := fun _ _ h => h.below hb h.lt
theorem KeepT.grown {T e : TypeId} {w w' : World} {B s n : Nat} {v : Value} {xs : List Value} (ho : w.ownsRow B e s v n xs) (hg : w.grownBy w' v.ownBlock) (hT : e ≠ T) : KeepT T w w' := fun _ _ h => kd_grown h ho hg (fun e' => hT e'.symm)
theorem KeepT.set {T e : TypeId} {w : World} {b i : Nat} {cs : Array Value} {u : Value} (hb : Blk w b cs e) (hT : e ≠ T) : KeepT T w (w.setCell ⟨b, i, none⟩ u) := fun x cur h => h.far (fun e' => by subst e'; exact hT (by unfold Blk at hb h; rw [hb] at h; simp at h; exact h.2))
/-- a slice, nil or in a block of its kind; f a thing's cell. -/
structure NX {α : Type} (T : TypeId) (f : α → Value) (w : World) (v : Value) (xs : List α) : Prop where
  is : (v = .slice none 0 0 ∧ xs = []) ∨ ∃ b off c cur, v = .slice (some ⟨b, off, none⟩) xs.length c ∧ xs.length ≤ c ∧ c ≤ 9223372036854775807 ∧ Blk w b cur T ∧ ∀ (i : Nat) x, xs[i]? = some x → cur[off + i]? = some (f x)
section
variable {α : Type} {T : TypeId} {f : α → Value} {w w' : World} {v : Value} {xs : List α}
theorem NX.nil (w : World) : NX T f w (.slice none 0 0) [] := ⟨.inl ⟨rfl, rfl⟩⟩
theorem NX.keep (h : NX T f w v xs) (k : KeepT T w w') : NX T f w' v xs := by
  rcases h.is with h | ⟨b, off, c, cur, e, h1, h2, h3, h4⟩
  · exact ⟨.inl h⟩
  · exact ⟨.inr ⟨b, off, c, cur, e, h1, h2, k _ _ h3, h4⟩⟩
theorem NX.below (h : NX T f w v xs) (hb : Below w.heap.size w w') : NX T f w' v xs := h.keep (KeepT.below hb)
theorem NX.form (h : NX T f w v xs) : ∃ A c, v = .slice A xs.length c := by
  rcases h.is with ⟨rfl, rfl⟩ | ⟨b, off, c, cur, rfl, _⟩
  · exact ⟨none, 0, rfl⟩
  · exact ⟨_, _, rfl⟩
theorem NX.sl (h : NX T f w v xs) : SlC 1 (fun x => [f x]) w w.heap.size v xs := by
  rcases h.is with ⟨rfl, rfl⟩ | ⟨b, off, c, cur, rfl, h1, h2, h3, h4⟩
  · exact ⟨⟨_, _, rfl, .inl rfl⟩⟩
  · refine ⟨⟨_, c, rfl, .inr ⟨b, off, rfl, by omega, h3.lt, h3.lt, fun i x hi j u hj => ?_⟩⟩⟩
    have hj0 : j = 0 := by
      have := (List.getElem?_eq_some_iff.1 hj).1
      simp at this; exact this
    subst hj0
    rw [show (⟨b, off + i * 1 + 0, none⟩ : Addr) = ⟨b, off + i, none⟩ by simp, h3.cell]
    rw [h4 i x hi]; simpa using hj
theorem NX.hnone (h : NX T f w v xs) : ∀ m c, v = .slice none m c → m = 0 ∧ c = 0 := by
  rcases h.is with ⟨rfl, rfl⟩ | ⟨b, off, c, cur, rfl, _⟩
  · intro m c e; cases e; exact ⟨rfl, rfl⟩
  · intro m c e; cases e
theorem NX.at_ {n c : Nat} {A : Option Addr} (h : NX T f w (.slice A n c) xs) {i : Nat} {x : α} (hi : xs[i]? = some x) : ∃ b off, A = some ⟨b, off, none⟩ ∧ xs.length ≤ c ∧ c ≤ 9223372036854775807 ∧ b < w.heap.size ∧ w.cell? ⟨b, off + i, none⟩ = some (f x) := by
  rcases h.is with ⟨e, rfl⟩ | ⟨b, off, c', cur, e, h1, h2, h3, h4⟩
  · simp at hi
  · cases e
    exact ⟨b, off, rfl, h1, h2, h3.lt, (h3.cell _).trans (h4 i x hi)⟩
theorem NX.take {b off n c : Nat} (h : NX T f w (.slice (some ⟨b, off, none⟩) n c) xs) {i : Nat} (hi : i ≤ xs.length) : NX T f w (.slice (some ⟨b, off, none⟩) i c) (xs.take i) := by
  rcases h.is with ⟨e, rfl⟩ | ⟨b', off', c', cur, e, h1, h2, h3, h4⟩
  · cases e
  · cases e
    refine ⟨.inr ⟨b, off, c, cur, by rw [List.length_take, Nat.min_eq_left hi], by rw [List.length_take]; omega, h2, h3, fun j x hj => ?_⟩⟩
    have hl := (List.getElem?_eq_some_iff.1 hj).1
    rw [List.length_take] at hl
    rw [List.getElem?_take_of_lt (by omega)] at hj
    exact h4 j x hj
theorem NX.drop {b off n c : Nat} (h : NX T f w (.slice (some ⟨b, off, none⟩) n c) xs) {i : Nat} (hi : i ≤ xs.length) : NX T f w (.slice (some ⟨b, off + i, none⟩) (xs.length - i) (c - i)) (xs.drop i) := by
  rcases h.is with ⟨e, rfl⟩ | ⟨b', off', c', cur, e, h1, h2, h3, h4⟩
  · cases e
  · cases e
    refine ⟨.inr ⟨b, off + i, c - i, cur, by rw [List.length_drop], by rw [List.length_drop]; omega, by omega, h3, fun j x hj => ?_⟩⟩
    rw [List.getElem?_drop] at hj
    rw [Nat.add_assoc]
    exact h4 _ x hj
theorem NX.drop_all {b off n c : Nat} (h : NX T f w (.slice (some ⟨b, off, none⟩) n c) xs) {i : Nat} (hi : i = xs.length) : NX T f w (.slice (some ⟨b, off, none⟩) 0 0) (xs.drop i) := by
  subst hi
  rw [List.drop_length]
  rcases h.is with ⟨e, rfl⟩ | ⟨b', off', c', cur, e, h1, h2, h3, h4⟩
  · cases e
  · cases e
    exact ⟨.inr ⟨b, off, 0, cur, rfl, Nat.le_refl _, by omega, h3, fun j x hj => by simp at hj⟩⟩
end
theorem own_NX {α : Type} {T : TypeId} {f : α → Value} {w : World} {B n : Nat} {v : Value} {xs : List α} (hn : xs.length = n) (h : w.ownsRow B T 1 v n (xs.map f)) : NX T f w v xs := by
  subst hn
  rcases h.2 with ⟨e, h0⟩ | ⟨g, cap, cur, e, h1, h2, h3, h4, h5, h6⟩
  · exact ⟨.inl ⟨e.trans (by rfl), List.length_eq_zero_iff.1 h0⟩⟩
  · refine ⟨.inr ⟨g, 0, cap, cur, e, h3, by unfold maxLen at h4; omega, h2, fun i x hi => ?_⟩⟩
    have hil : i < xs.length := (List.getElem?_eq_some_iff.1 hi).1
    have : (xs.map f)[i]? = some (f x) := by rw [List.getElem?_map, hi]; rfl
    rw [← h6, List.getElem?_take_of_lt (by omega)] at this
    rw [Nat.zero_add, ← this]; simp
end Go.Proofs.Ytlpcddmcddenfaa.Kp
