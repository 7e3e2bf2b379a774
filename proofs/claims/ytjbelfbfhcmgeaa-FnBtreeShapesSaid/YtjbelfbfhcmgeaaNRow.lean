/- slices of ints, nil or in a block: what is read, cut and put together. -/
import Derived.Test.YtjbelfbfhcmgeaaKid
namespace Go.Proofs.Ytjbelfbfhcmgeaa.Kp
open Go.RowKit

/-- a slice of ints: nil, or in a block of ints. -/
structure NS (w : World) (v : Value) (xs : List Int) : Prop where
  is : (v = .slice none 0 0 ∧ xs = []) ∨ ∃ b off c cur, v = .slice (some ⟨b, off, none⟩) xs.length c ∧ xs.length ≤ c ∧ c ≤ 9223372036854775807 ∧ Blk w b cur 3 ∧ ∀ (i : Nat) x, xs[i]? = some x → cur[off + i]? = some (.int .i64 x)
theorem NS.nil (w : World) : NS w (.slice none 0 0) [] := ⟨.inl ⟨rfl, rfl⟩⟩
/-- rows of ints stay. -/
def KeepI (w w' : World) : Prop := ∀ b cur, Blk w b cur 3 → Blk w' b cur 3
theorem KeepI.trans {a b c : World} (h : KeepI a b) (k : KeepI b c) : KeepI a c := fun x cur hb => k x cur (h x cur hb)
theorem KeepI.below {w w' : World} (hb : Below w.heap.size w w') : KeepI w w' := fun _ _ h => h.below hb h.lt
theorem KeepI.set {w : World} {b i : Nat} {cs : Array Value} {T : TypeId} (hb : Blk w b cs T) (hT : T ≠ 3) (v : Value) : KeepI w (w.setCell ⟨b, i, none⟩ v) := fun g cur h => h.far (fun e => by
  subst e
  unfold Blk at h hb
  rw [h] at hb
  simp at hb
  exact hT hb.2.symm)
theorem KeepI.fr {S : List Nat} {w w' : World} (hf : Fr S w w') (hS : ∀ b ∈ S, ∃ cs T, Blk w b cs T ∧ T ≠ 3) : KeepI w w' := fun g cur h => h.fr hf (fun hx => by
  obtain ⟨cs, T, hb, hT⟩ := hS g hx
  unfold Blk at h hb
  rw [h] at hb
  simp at hb
  exact hT hb.2.symm)
theorem NS.keep {w w' : World} {v : Value} {xs : List Int} (h : NS w v xs) (k : KeepI w w') : NS w' v xs := by
  rcases h.is with h | ⟨b, off, c, cur, e, h1, h2, h3, h4⟩
  · exact ⟨.inl h⟩
  · exact ⟨.inr ⟨b, off, c, cur, e, h1, h2, k _ _ h3, h4⟩⟩
theorem NS.below {w w' : World} {v : Value} {xs : List Int} (h : NS w v xs) (hb : Below w.heap.size w w') : NS w' v xs := h.keep (KeepI.below hb)
theorem NS.form {w : World} {v : Value} {xs : List Int} (h : NS w v xs) : ∃ A c, v = .slice A xs.length c := by
  rcases h.is with ⟨rfl, rfl⟩ | ⟨b, off, c, cur, e, _⟩
  · exact ⟨_, _, rfl⟩
  · exact ⟨_, _, e⟩
theorem NS.sl {w : World} {v : Value} {xs : List Int} (h : NS w v xs) : SlC 1 num1 w w.heap.size v xs := by
  rcases h.is with ⟨rfl, rfl⟩ | ⟨b, off, c, cur, e, h1, h2, h3, h4⟩
  · exact ⟨⟨none, 0, rfl, .inl rfl⟩⟩
  · refine ⟨⟨_, c, e, .inr ⟨b, off, rfl, h1, h3.lt, h3.lt, fun i x hi j u hj => ?_⟩⟩⟩
    cases j with
    | succ j => simp [num1] at hj
    | zero =>
      simp only [num1, List.getElem?_cons_zero, Option.some.injEq] at hj
      rw [Nat.mul_one, Nat.add_zero, h3.cell, h4 i x hi, ← hj]
theorem NS.hnone {w : World} {v : Value} {xs : List Int} (h : NS w v xs) : ∀ m c, v = .slice none m c → m = 0 ∧ c = 0 := by
  intro m c e
  rcases h.is with ⟨rfl, _⟩ | ⟨b, off, c', cur, e', _⟩
  · cases e; exact ⟨rfl, rfl⟩
  · rw [e'] at e; cases e
theorem NS.at_ {w : World} {n c : Nat} {A : Option Addr} {xs : List Int} (h : NS w (.slice A n c) xs) {i : Nat} (hi : i < xs.length) : ∃ b off, A = some ⟨b, off, none⟩ ∧ xs.length ≤ c ∧ c ≤ 9223372036854775807 ∧ b < w.heap.size ∧ w.cell? ⟨b, off + i, none⟩ = some (.int .i64 (xs.getD i 0)) := by
  rcases h.is with ⟨_, rfl⟩ | ⟨b, off, c', cur, e, h1, h2, h3, h4⟩
  · simp at hi
  · cases e
    exact ⟨b, off, rfl, h1, h2, h3.lt, (h3.cell _).trans (h4 i _ (by rw [List.getD_eq_getElem?_getD, List.getElem?_eq_getElem hi]; rfl))⟩
theorem own_NS {w : World} {B n : Nat} {v : Value} {xs : List Int} (hn : xs.length = n) (h : w.ownsRow B 3 1 v n (xs.map i64v)) : NS w v xs := by
  subst hn
  rcases h.2 with ⟨e, h0⟩ | ⟨g, cap, cur, e, h1, h2, h3, h4, h5, h6⟩
  · exact ⟨.inl ⟨e, List.length_eq_zero_iff.1 h0⟩⟩
  · refine ⟨.inr ⟨g, 0, cap, cur, e, h3, h4, h2, fun i x hi => ?_⟩⟩
    have hl := (List.getElem?_eq_some_iff.1 hi).1
    have h7 : (xs.map i64v)[i]? = some (i64v x) := by rw [List.getElem?_map, hi]; rfl
    rw [← h6, List.getElem?_take_of_lt (by omega)] at h7
    rw [Nat.zero_add]
    simpa using h7
/-- the first i of a slice. -/
theorem NS.take {w : World} {b off n c : Nat} {xs : List Int} (h : NS w (.slice (some ⟨b, off, none⟩) n c) xs) {i : Nat} (hi : i ≤ xs.length) : NS w (.slice (some ⟨b, off, none⟩) i c) (xs.take i) := by
  rcases h.is with ⟨e, _⟩ | ⟨b', off', c', cur, e, h1, h2, h3, h4⟩
  · cases e
  · cases e
    refine ⟨.inr ⟨b, off, c, cur, by rw [List.length_take, Nat.min_eq_left hi], by rw [List.length_take]; omega, h2, h3, fun j x hj => ?_⟩⟩
    have hl := (List.getElem?_eq_some_iff.1 hj).1
    rw [List.length_take] at hl
    rw [List.getElem?_take_of_lt (by omega)] at hj
    exact h4 j x hj
/-- what is behind the first i. -/
theorem NS.drop {w : World} {b off n c : Nat} {xs : List Int} (h : NS w (.slice (some ⟨b, off, none⟩) n c) xs) {i : Nat} (hi : i ≤ xs.length) : NS w (.slice (some ⟨b, off + i, none⟩) (xs.length - i) (c - i)) (xs.drop i) := by
  rcases h.is with ⟨e, _⟩ | ⟨b', off', c', cur, e, h1, h2, h3, h4⟩
  · cases e
  · cases e
    refine ⟨.inr ⟨b, off + i, c - i, cur, by rw [List.length_drop], by rw [List.length_drop]; omega, by omega, h3, fun j x hj => ?_⟩⟩
    rw [List.getElem?_drop] at hj
    rw [Nat.add_assoc]
    exact h4 (i + j) x hj
theorem NS.drop_all {w : World} {b off n c : Nat} {xs : List Int} (h : NS w (.slice (some ⟨b, off, none⟩) n c) xs) {i : Nat} (hi : i = xs.length) : NS w (.slice (some ⟨b, off, none⟩) 0 0) (xs.drop i) := by
  rcases h.is with ⟨e, _⟩ | ⟨b', off', c', cur, e, h1, h2, h3, h4⟩
  · cases e
  · cases e
    subst hi
    refine ⟨.inr ⟨b, off, 0, cur, by simp, by simp, by omega, h3, fun j x hj => by simp at hj⟩⟩
/-- the first i, and what is behind them, as the walk spells them. -/
def cutLo (A : Option Addr) (i : Nat) : Option Addr := A.map (fun a => ⟨a.block, a.off + i, none⟩)
theorem own_mt (w : World) (T : TypeId) (s : Nat) : (w.alloc (.cells #[] T)).ownsRow w.heap.size T s (.slice (some ⟨w.heap.size, 0, none⟩) 0 0) 0 [] :=
  ⟨by simp, .inr ⟨w.heap.size, 0, #[], rfl, Nat.le_refl _, by show (w.heap.push _)[w.heap.size]? = _; rw [Array.getElem?_push, if_pos rfl], Nat.le_refl _, by unfold maxLen; omega, by simp, by simp⟩⟩
end Go.Proofs.Ytjbelfbfhcmgeaa.Kp
