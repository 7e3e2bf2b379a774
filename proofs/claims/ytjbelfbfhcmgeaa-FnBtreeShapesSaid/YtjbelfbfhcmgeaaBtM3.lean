/- B-trees in memory: nodes that are being written. -/
import Derived.Test.YtjbelfbfhcmgeaaBtS2
namespace Go.Proofs.Ytjbelfbfhcmgeaa.Kp
open Go.RowKit Bt

/-- a node of which some entries are known. -/
structure PC (cs : Array Value) (m : Int) (g : Nat → Option Ent) : Prop where
  size : cs.size = 257
  one : ∀ (i : Nat) (u : Value), cs[i]? = some u → u.oneCell' = true
  m : cs[0]? = some (.int .i64 m)
  row : ∀ (i : Nat) e, g i = some e → cs[1 + i * 4]? = some (.int .i64 e.key) ∧ cs[1 + i * 4 + 1]? = some (.int .i64 e.val) ∧ cs[1 + i * 4 + 2]? = some (.bool e.valid) ∧ cs[1 + i * 4 + 3]? = some (.pointer e.next)
structure PN (w : World) (b : Nat) (m : Int) (g : Nat → Option Ent) : Prop where
  is : ∃ cs, Blk w b cs 87 ∧ PC cs m g
theorem ND.toP {w : World} {b : Nat} {rows : List Ent} (h : ND w b rows) : PN w b (rows.length : Nat) (fun i => rows[i]?) := by
  obtain ⟨cs, h1, h2⟩ := h.is
  exact ⟨cs, h1, h2.size, h2.one, h2.m, h2.row⟩
theorem PN.toN {w : World} {b : Nat} {m : Int} {g : Nat → Option Ent} (h : PN w b m g) (rows : List Ent) (hm : m = (rows.length : Nat)) (hg : ∀ (i : Nat) e, rows[i]? = some e → g i = some e) (hl : rows.length ≤ 64) : ND w b rows := by
  obtain ⟨cs, h1, h2⟩ := h.is
  subst hm
  exact ⟨cs, h1, h2.size, h2.one, h2.m, fun i e he => h2.row i e (hg i e he), hl⟩
theorem PN.lt {w : World} {b : Nat} {m : Int} {g : Nat → Option Ent} (h : PN w b m g) : b < w.heap.size := by
  obtain ⟨cs, h1, _⟩ := h.is; exact h1.lt
theorem PN.weak {w : World} {b : Nat} {m : Int} {g g' : Nat → Option Ent} (h : PN w b m g) (hg : ∀ i e, g' i = some e → g i = some e) : PN w b m g' := by
  obtain ⟨cs, h1, h2⟩ := h.is
  exact ⟨cs, h1, h2.size, h2.one, h2.m, fun i e he => h2.row i e (hg i e he)⟩
theorem PN.fr {w w' : World} {S : List Nat} {b : Nat} {m : Int} {g : Nat → Option Ent} (h : PN w b m g) (hf : Fr S w w') (hn : b ∉ S) : PN w' b m g := by
  obtain ⟨cs, h1, h2⟩ := h.is; exact ⟨cs, h1.fr hf hn, h2⟩
theorem PN.m {w : World} {b : Nat} {m : Int} {g : Nat → Option Ent} (h : PN w b m g) : w.cell? ⟨b, 0, none⟩ = some (.int .i64 m) := by
  obtain ⟨cs, h1, h2⟩ := h.is; rw [h1.cell]; exact h2.m
theorem PN.frozen {w : World} {b : Nat} {m : Int} {g : Nat → Option Ent} (h : PN w b m g) (i : Nat) : w.frozen? ⟨b, i, none⟩ = false := by
  obtain ⟨cs, h1, h2⟩ := h.is; exact h1.frozen i
theorem PN.row {w : World} {b : Nat} {m : Int} {g : Nat → Option Ent} (h : PN w b m g) {i : Nat} {e : Ent} (hi : g i = some e) :
    w.cell? ⟨b, 1 + i * 4, none⟩ = some (.int .i64 e.key) ∧ w.cell? ⟨b, 1 + i * 4 + 1, none⟩ = some (.int .i64 e.val) ∧ w.cell? ⟨b, 1 + i * 4 + 2, none⟩ = some (.bool e.valid) ∧ w.cell? ⟨b, 1 + i * 4 + 3, none⟩ = some (.pointer e.next) := by
  obtain ⟨cs, h1, h2⟩ := h.is
  rw [h1.cell, h1.cell, h1.cell, h1.cell]
  exact h2.row i e hi
theorem PN.room {w : World} {b : Nat} {m : Int} {g : Nat → Option Ent} (h : PN w b m g) {i : Nat} (hi : i < 64) :
    ∃ u0 u1 u2 u3, w.cell? ⟨b, 1 + i * 4, none⟩ = some u0 ∧ w.cell? ⟨b, 1 + i * 4 + 1, none⟩ = some u1 ∧ w.cell? ⟨b, 1 + i * 4 + 2, none⟩ = some u2 ∧ w.cell? ⟨b, 1 + i * 4 + 3, none⟩ = some u3 := by
  obtain ⟨cs, h1, h2⟩ := h.is
  have := h2.size
  rw [h1.cell, h1.cell, h1.cell, h1.cell]
  exact ⟨_, _, _, _, Array.getElem?_eq_getElem (by omega), Array.getElem?_eq_getElem (by omega), Array.getElem?_eq_getElem (by omega), Array.getElem?_eq_getElem (by omega)⟩
theorem set_one {cs : Array Value} (h : ∀ (i : Nat) (u : Value), cs[i]? = some u → u.oneCell' = true) (j : Nat) {v : Value} (hv : v.oneCell' = true) : ∀ (i : Nat) (u : Value), (cs.setIfInBounds j v)[i]? = some u → u.oneCell' = true := by
  intro i u hu
  by_cases e : j = i
  · subst e
    by_cases hj : j < cs.size
    · rw [Array.getElem?_setIfInBounds_self_of_lt hj] at hu; cases hu; exact hv
    · rw [Array.setIfInBounds_eq_of_size_le (by omega)] at hu; exact h _ _ hu
  · rw [Array.getElem?_setIfInBounds_ne e] at hu; exact h _ _ hu
theorem PN.setM {w : World} {b : Nat} {m : Int} {g : Nat → Option Ent} (h : PN w b m g) (m' : Int) : PN (w.setCell ⟨b, 0, none⟩ (.int .i64 m')) b m' g := by
  obtain ⟨cs, h1, h2⟩ := h.is
  have hs := h2.size
  refine ⟨_, h1.set 0 _, by simp [hs], set_one h2.one 0 rfl, by rw [Array.getElem?_setIfInBounds_self_of_lt (by omega)], fun i e he => ?_⟩
  obtain ⟨a0, a1, a2, a3⟩ := h2.row i e he
  rw [Array.getElem?_setIfInBounds_ne (by omega), Array.getElem?_setIfInBounds_ne (by omega), Array.getElem?_setIfInBounds_ne (by omega), Array.getElem?_setIfInBounds_ne (by omega)]
  exact ⟨a0, a1, a2, a3⟩
/-- an entry is written at a place. -/
theorem PN.setE {w : World} {b : Nat} {m : Int} {g : Nat → Option Ent} (h : PN w b m g) (i : Nat) (hi : i < 64) (e : Ent) :
    PN ((((w.setCell ⟨b, 1 + i * 4, none⟩ (.int .i64 e.key)).setCell ⟨b, 1 + i * 4 + 1, none⟩ (.int .i64 e.val)).setCell ⟨b, 1 + i * 4 + 2, none⟩ (.bool e.valid)).setCell ⟨b, 1 + i * 4 + 3, none⟩ (.pointer e.next)) b m (fun k => if k = i then some e else g k) := by
  obtain ⟨cs, h1, h2⟩ := h.is
  have hs := h2.size
  refine ⟨_, (((h1.set _ _).set _ _).set _ _).set _ _, by simp [hs], set_one (set_one (set_one (set_one h2.one _ rfl) _ rfl) _ rfl) _ rfl, ?_, fun k e' he => ?_⟩
  · rw [Array.getElem?_setIfInBounds_ne (by omega), Array.getElem?_setIfInBounds_ne (by omega), Array.getElem?_setIfInBounds_ne (by omega), Array.getElem?_setIfInBounds_ne (by omega)]
    exact h2.m
  · by_cases c : k = i
    · subst c
      rw [if_pos rfl] at he
      cases he
      refine ⟨?_, ?_, ?_, ?_⟩
      · rw [Array.getElem?_setIfInBounds_ne (by omega), Array.getElem?_setIfInBounds_ne (by omega), Array.getElem?_setIfInBounds_ne (by omega), Array.getElem?_setIfInBounds_self_of_lt (by omega)]
      · rw [Array.getElem?_setIfInBounds_ne (by omega), Array.getElem?_setIfInBounds_ne (by omega), Array.getElem?_setIfInBounds_self_of_lt (by simp; omega)]
      · rw [Array.getElem?_setIfInBounds_ne (by omega), Array.getElem?_setIfInBounds_self_of_lt (by simp; omega)]
      · rw [Array.getElem?_setIfInBounds_self_of_lt (by simp; omega)]
    · rw [if_neg c] at he
      obtain ⟨a0, a1, a2, a3⟩ := h2.row k e' he
      refine ⟨?_, ?_, ?_, ?_⟩
      all_goals
        rw [Array.getElem?_setIfInBounds_ne (by omega), Array.getElem?_setIfInBounds_ne (by omega), Array.getElem?_setIfInBounds_ne (by omega), Array.getElem?_setIfInBounds_ne (by omega)]
        assumption
theorem fr_setE (w : World) (b i : Nat) (x0 x1 x2 x3 : Value) : Fr [b] w ((((w.setCell ⟨b, 1 + i * 4, none⟩ x0).setCell ⟨b, 1 + i * 4 + 1, none⟩ x1).setCell ⟨b, 1 + i * 4 + 2, none⟩ x2).setCell ⟨b, 1 + i * 4 + 3, none⟩ x3) :=
  (((Fr.setCell w b _ x0 (by simp)).comp (Fr.setCell _ b _ x1 (by simp))).comp (Fr.setCell _ b _ x2 (by simp))).comp (Fr.setCell _ b _ x3 (by simp))
theorem PN.drewN {w : World} {b : Nat} {m : Int} {g : Nat → Option Ent} (h : PN w b m g) (n : Nat) : PN (w.drewN n) b m g := by
  obtain ⟨cs, h1, h2⟩ := h.is; exact ⟨cs, h1.drewN n, h2⟩
theorem z257_one : ∀ (i : Nat) (u : Value), (Try.zeroCells87)[i]? = some u → u.oneCell' = true := by
  have h : (Try.zeroCells87).all (·.oneCell') = true := by kernel_rfl
  intro i u hu
  obtain ⟨hi, e⟩ := Array.getElem?_eq_some_iff.1 hu
  have := Array.all_eq_true.1 h i hi
  rwa [e] at this
/-- a node just made. -/
theorem PN.new (w : World) (m : Int) : PN (w.alloc (.cells ((Try.zeroCells87).setIfInBounds 0 (.int .i64 m)) 87)) w.heap.size m (fun _ => none) :=
  ⟨_, Blk.new w _ _, by rw [Array.size_setIfInBounds]; exact z257_size, set_one z257_one 0 rfl, by rw [Array.getElem?_setIfInBounds_self_of_lt (by rw [z257_size]; omega)], fun _ _ h => by cases h⟩
end Go.Proofs.Ytjbelfbfhcmgeaa.Kp
