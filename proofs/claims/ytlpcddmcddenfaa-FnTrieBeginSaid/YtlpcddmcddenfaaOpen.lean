/- Arguments that are slices, opened: a list of what their elements hold. -/
import Derived.Test.YtlpcddmcddenfaaK
import Derived.ProofKit
import Derived.OpenShut
import Derived.ShutString
import Derived.ChangeOld
import Derived.Below
import Derived.SizedLaws
import Derived.Deep.Slices
import Derived.ChangeArms
namespace Go.Proofs.Ytlpcddmcddenfaa
open Go.ChangeShapes Go.WideShapes Go.ChangeAt Go.RowKit Go.Deep

section
variable {H : Type} {enc : TypeId × Value → H} {P : Program} {w : World}
theorem addr_off {b off : Nat} {spot : Option Nat} {v : Value} {i : Nat} (h : w.cell? ((⟨b, off, spot⟩ : Addr).add i) = some v) : (i = 0 → spot = none) ∧ w.cell? ⟨b, off + i, none⟩ = some v := by
  by_cases hi : i = 0
  · subst hi
    have e : (⟨b, off, spot⟩ : Addr).add 0 = ⟨b, off, spot⟩ := by simp [Addr.add]
    rw [e] at h
    have hs := World.cell?_spot h
    simp only at hs
    subst hs
    exact ⟨fun _ => rfl, h⟩
  · have e : (⟨b, off, spot⟩ : Addr).add i = ⟨b, off + i, none⟩ := by unfold Addr.add; rw [if_neg hi]
    rw [e] at h
    exact ⟨fun h0 => absurd h0 hi, h⟩
theorem choose_list {α : Type} (p : Nat → α → Prop) : ∀ n, (∀ i, i < n → ∃ x, p i x) → ∃ l : List α, l.length = n ∧ ∀ i x, l[i]? = some x → p i x
  | 0, _ => ⟨[], rfl, fun i x h => by simp at h⟩
  | n + 1, hall => by
    obtain ⟨l, hl1, hl2⟩ := choose_list p n (fun i hi => hall i (by omega))
    obtain ⟨x, hx⟩ := hall n (by omega)
    refine ⟨l ++ [x], by simp [hl1], fun i y hy => ?_⟩
    by_cases hin : i < l.length
    · rw [List.getElem?_append_left hin] at hy; exact hl2 i y hy
    · rw [List.getElem?_append_right (by omega)] at hy
      have hz : i - l.length = 0 := by
        have := (List.getElem?_eq_some_iff.1 hy).1
        simp at this; omega
      rw [hz] at hy
      simp at hy
      subst hy
      rw [show i = n by omega]; exact hx
/-- how many elements, those to spare counted, a datum of a slice has. -/
def slotsOf : DataW H → Nat
  | .slice el sp => el.length + sp.length
  | _ => 0
theorem open_rows {α : Type} {t e : TypeId} {C : Nat} (cells : α → List Value) (hC : P.cellsOf e = C) (hC0 : 0 < C) (hlen : ∀ a, (cells a).length = C) (ht : P.underlying t = some (.slice e))
    (helem : ∀ n cs x, DataW.trod enc P w 0 (fun _ => true) true n e cs = some x → ∃ a, cs = cells a) {A : Option Addr} {n c : Nat} {d : DataW H} {ps : List MemPlace}
    (h : DataW.Trod enc P w 0 (fun _ => true) true t (.slice A n c) d ps) :
    ∃ l : List α, l.length = n ∧ (slotsOf d = c ∨ c = 0) ∧ (l = [] ∨ ∃ b off, A = some ⟨b, off, none⟩ ∧ n ≤ c ∧ c ≤ maxLen ∧ b < w.heap.size ∧ ∀ i a, l[i]? = some a → ∀ j x, (cells a)[j]? = some x → w.cell? ⟨b, off + i * C + j, none⟩ = some x) ∧ ((∃ el sp, d = .slice el sp) ∨ c = 0) := by
  obtain ⟨fuel, hf⟩ := h
  rcases open_slice ht hf with ⟨hcs, hx⟩ | ⟨a, len, cap, m, k, D, Pl, hcs, _, hl, hm, hmm, hx, hi⟩
  · simp [Value.cells] at hcs
    obtain ⟨rfl, rfl, rfl⟩ := hcs
    exact ⟨[], rfl, .inr rfl, .inl rfl, .inr rfl⟩
  · simp [Value.cells] at hcs
    obtain ⟨rfl, rfl, rfl⟩ := hcs
    simp only [if_true] at hmm
    subst hmm
    simp only [Prod.mk.injEq] at hx
    obtain ⟨rfl, rfl⟩ := hx
    have hall : ∀ i, i < n → ∃ x : α, w.cells? 0 (a.add (i * C)) C = some (cells x) := by
      intro i hin
      obtain ⟨cs', h1, h2⟩ := hi i (by omega)
      rw [hC] at h1
      obtain ⟨x, rfl⟩ := helem _ _ _ h2
      exact ⟨x, h1⟩
    have hlist := choose_list (fun i x => w.cells? 0 (a.add (i * C)) C = some (cells x)) n hall
    obtain ⟨l, hl1, hl2⟩ := hlist
    refine ⟨l, hl1, .inl ?_, ?_, .inl ⟨_, _, rfl⟩⟩
    · simp [slotsOf]; omega
    · by_cases hz : l = []
      · exact .inl hz
      · right
        have h0 : 0 < l.length := List.length_pos_iff.2 hz
        obtain ⟨b, off, spot⟩ := a
        have first := hl2 0 l[0] (List.getElem?_eq_getElem h0)
        obtain ⟨_, _, hc⟩ := World.cells?_some first
        have hc0 := hc 0 hC0
        have hcl : 0 < (cells l[0]).length := by rw [hlen]; exact hC0
        rw [List.getElem?_eq_getElem hcl, Nat.zero_mul] at hc0
        have e0 : ((⟨b, off, spot⟩ : Addr).add 0).add 0 = (⟨b, off, spot⟩ : Addr).add 0 := by simp [Addr.add]
        rw [e0] at hc0
        obtain ⟨hs, hc0'⟩ := addr_off hc0
        have hs := hs rfl
        subst hs
        refine ⟨b, off, rfl, hl, hm, World.block_lt_of_cell? w _ hc0', fun i x hx j y hy => ?_⟩
        obtain ⟨_, _, hcx⟩ := World.cells?_some (hl2 i x hx)
        have hj : j < C := by have := (List.getElem?_eq_some_iff.1 hy).1; rw [hlen] at this; exact this
        have := hcx j hj
        rw [hy, Go.Deep.add_add] at this
        have := (addr_off this).2
        rw [← Nat.add_assoc] at this
        exact this
theorem open_none {t e : TypeId} (ht : P.underlying t = some (.slice e)) {A : Option Addr} {n c : Nat} {d : DataW H} {ps : List MemPlace}
    (h : DataW.Trod enc P w 0 (fun _ => true) true t (.slice A n c) d ps) : ∀ m k, Value.slice A n c = .slice none m k → m = 0 ∧ k = 0 := by
  intro m k e
  obtain ⟨fuel, hf⟩ := h
  rcases open_slice ht hf with ⟨hcs, hx⟩ | ⟨a, len, cap, m, k, D, Pl, hcs, _⟩
  · simp [Value.cells] at hcs
    obtain ⟨rfl, rfl, rfl⟩ := hcs
    cases e; exact ⟨rfl, rfl⟩
  · simp [Value.cells] at hcs
    obtain ⟨rfl, rfl, rfl⟩ := hcs
    cases e
theorem open_SlR {t e : TypeId} (hC : P.cellsOf e = 1) (ht : P.underlying t = some (.slice e)) (he : P.underlying e = some (.int .i64)) {A : Option Addr} {n c : Nat} {d : DataW H} {ps : List MemPlace}
    (h : DataW.Trod enc P w 0 (fun _ => true) true t (.slice A n c) d ps) (hc : (∃ el sp, d = .slice el sp) → slotsOf d ≤ 17592186044416) : ∃ xs : List Int, SlR w w.heap.size (.slice A n c) (xs.map i64v) := by
  obtain ⟨l, h1, h2, h3, h4⟩ := open_rows (α := Int) (fun x => [.int .i64 x]) hC (by decide) (fun _ => rfl) ht (fun n cs x hx => by
    obtain ⟨k, hk, _⟩ := DataW.trod_int he hx
    exact ⟨k, hk⟩) h
  have hcl : c ≤ 17592186044416 := by
    rcases h2 with h2 | h2
    · rcases h4 with h4 | h4
      · rw [← h2]; exact hc h4
      · omega
    · omega
  refine ⟨l, ⟨A, c, by rw [List.length_map, h1], ?_⟩⟩
  rcases h3 with rfl | ⟨b, off, e1, e2, e3, e4, e5⟩
  · exact .inl rfl
  · refine .inr ⟨b, off, e1, by rw [List.length_map, h1]; exact e2, by rw [List.length_map, h1]; omega, e4, e4, fun i hi => ?_⟩
    rw [List.length_map] at hi
    have := e5 i l[i] (List.getElem?_eq_getElem hi) 0 _ rfl
    rw [Nat.mul_one, Nat.add_zero] at this
    rw [this, List.getElem?_map, List.getElem?_eq_getElem hi]; rfl
theorem open_agg {e : TypeId} {fs : Array Field} {n : Nat} {cs : List Value} {x : DataW H × List MemPlace} (he : P.underlying e = some (.struct fs)) (h : DataW.trod enc P w 0 (fun _ => true) true n e cs = some x) :
    cs.length = P.cellsOf e ∧ ∀ (j : Nat) (f : Field), fs[j]? = some f → ∃ m y, DataW.trod enc P w 0 (fun _ => true) true m f.type ((cs.drop f.offset).take (P.cellsOf f.type)) = some y := by
  obtain ⟨ys, m, _, _, hl, hyl, hf⟩ := DataW.trod_struct he h
  refine ⟨hl, fun j f hj => ⟨m, ?_⟩⟩
  have hjl : j < fs.size := (Array.getElem?_eq_some_iff.1 hj).1
  rw [hf j f hj, List.getElem?_eq_getElem (by omega)]
  exact ⟨_, rfl⟩
end
end Go.Proofs.Ytlpcddmcddenfaa
