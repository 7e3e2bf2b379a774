/- slices whose elements are some cells each: what came in, and what is owned. -/
import Derived.Test.YtlpcddmcddenfaaK
import Derived.Laws.AppendOwnNone
namespace Go.Proofs.Ytlpcddmcddenfaa
open Go.RowKit

/-- a slice that came in, in blocks below B: element by element s cells. -/
structure SlC {α : Type} (s : Nat) (cells : α → List Value) (w : World) (B : Nat) (v : Value) (l : List α) : Prop where
  is : ∃ A cap, v = .slice A l.length cap ∧ (l = [] ∨ ∃ b off, A = some ⟨b, off, none⟩ ∧ l.length ≤ cap ∧ b < B ∧ b < w.heap.size ∧ ∀ i a, l[i]? = some a → ∀ j u, (cells a)[j]? = some u → w.cell? ⟨b, off + i * s + j, none⟩ = some u)
section
variable {α : Type} {s : Nat} {cells : α → List Value}
theorem SlC.below {w w' : World} {B : Nat} {v : Value} {l : List α} (h : SlC s cells w B v l) (hb : Below B w w') : SlC s cells w' B v l := by
  obtain ⟨A, cap, e, h⟩ := h.is
  refine ⟨A, cap, e, h.imp id ?_⟩
  rintro ⟨b, off, e, h1, h3, h4, h5⟩
  exact ⟨b, off, e, h1, h3, Nat.lt_of_lt_of_le h4 hb.size, fun i a hi j u hj => (hb.cell (p := ⟨b, off + i * s + j, none⟩) h3).trans (h5 i a hi j u hj)⟩
theorem SlC.mono {w : World} {B B' : Nat} {v : Value} {l : List α} (h : SlC s cells w B v l) (hB : B ≤ B') : SlC s cells w B' v l := by
  obtain ⟨A, cap, e, h⟩ := h.is
  refine ⟨A, cap, e, h.imp id ?_⟩
  rintro ⟨b, off, e, h1, h3, h4, h5⟩
  exact ⟨b, off, e, h1, Nat.lt_of_lt_of_le h3 hB, h4, h5⟩
theorem SlC.form {w : World} {B : Nat} {v : Value} {l : List α} (h : SlC s cells w B v l) : ∃ A c, v = .slice A l.length c := by
  obtain ⟨A, cap, e, _⟩ := h.is
  exact ⟨A, cap, e⟩
theorem SlC.nil (w : World) (B : Nat) : SlC s cells w B (.slice none 0 0) ([] : List α) := ⟨none, 0, rfl, .inl rfl⟩
theorem SlC.at_ {w : World} {B n c : Nat} {A : Option Addr} {l : List α} (h : SlC s cells w B (.slice A n c) l) {i : Nat} (hi : i < l.length) : ∃ b off a, A = some ⟨b, off, none⟩ ∧ l.length ≤ c ∧ b < B ∧ b < w.heap.size ∧ l[i]? = some a ∧
    ∀ j u, (cells a)[j]? = some u → w.cell? ⟨b, off + i * s + j, none⟩ = some u := by
  obtain ⟨A', cap, e, h⟩ := h.is
  cases e
  rcases h with rfl | ⟨b, off, rfl, h1, h3, h4, h5⟩
  · simp at hi
  · exact ⟨b, off, l[i], rfl, h1, h3, h4, List.getElem?_eq_getElem hi, h5 i _ (List.getElem?_eq_getElem hi)⟩
/-- what is behind the first element. -/
theorem SlC.tail {w : World} {B : Nat} {b off c n : Nat} {a : α} {l : List α} (h : SlC s cells w B (.slice (some ⟨b, off, none⟩) n c) (a :: l)) : SlC s cells w B (.slice (some ⟨b, off + s, none⟩) l.length (c - 1)) l := by
  obtain ⟨A', cap, e, h⟩ := h.is
  cases e
  rcases h with h | ⟨b', off', e', h1, h3, h4, h5⟩
  · cases h
  · cases e'
    refine ⟨_, _, rfl, .inr ⟨b, off + s, rfl, by simp at h1; omega, h3, h4, fun i x hi j u hj => ?_⟩⟩
    have := h5 (i + 1) x (by simpa using hi) j u hj
    rw [show off + s + i * s + j = off + (i + 1) * s + j by rw [Nat.add_mul]; omega]
    exact this
theorem flat_len (hs : ∀ a, (cells a).length = s) : ∀ l : List α, (l.flatMap cells).length = l.length * s
  | [] => by simp
  | a :: l => by rw [List.flatMap_cons, List.length_append, hs, flat_len hs l, List.length_cons, Nat.add_mul]; omega
theorem flat_get (hs : ∀ a, (cells a).length = s) : ∀ (l : List α) (i : Nat) (a : α), l[i]? = some a → ∀ j u, (cells a)[j]? = some u → (l.flatMap cells)[i * s + j]? = some u
  | [], i, a, h, _, _, _ => by simp at h
  | b :: l, 0, a, h, j, u, hj => by
    simp at h; subst h
    have hl := (List.getElem?_eq_some_iff.1 hj).1
    rw [List.flatMap_cons, Nat.zero_mul, Nat.zero_add, List.getElem?_append_left hl]; exact hj
  | b :: l, i + 1, a, h, j, u, hj => by
    have := flat_get hs l i a (by simpa using h) j u hj
    rw [List.flatMap_cons, List.getElem?_append_right (by rw [hs, Nat.add_mul]; omega), hs]
    rw [show (i + 1) * s + j - s = i * s + j by rw [Nat.add_mul]; omega]
    exact this
theorem flat_snoc (a : α) (l : List α) : (l ++ [a]).flatMap cells = l.flatMap cells ++ cells a := by simp
theorem own_SlC (hs : ∀ a, (cells a).length = s) {w : World} {B : Nat} {T : TypeId} {v : Value} {l : List α} (h : w.ownsRow B T s v l.length (l.flatMap cells)) : SlC s cells w w.heap.size v l := by
  rcases h.2 with ⟨e, h0⟩ | ⟨g, cap, cur, e, h1, h2, h3, h4, h5, h6⟩
  · have := List.length_eq_zero_iff.1 h0
    subst this
    exact ⟨⟨_, _, e, .inl rfl⟩⟩
  · have hl : g < w.heap.size := (Array.getElem?_eq_some_iff.1 h2).1
    refine ⟨⟨_, cap, e, .inr ⟨g, 0, rfl, h3, hl, hl, fun i a hi j u hj => ?_⟩⟩⟩
    have hil : i < l.length := (List.getElem?_eq_some_iff.1 hi).1
    have hjl : j < s := by rw [← hs a]; exact (List.getElem?_eq_some_iff.1 hj).1
    have a0 := flat_get hs l i a hi j u hj
    have hlt : i * s + j < l.length * s := by
      have : (i + 1) * s ≤ l.length * s := Nat.mul_le_mul_right s hil
      rw [Nat.add_mul] at this; omega
    rw [← h6, List.getElem?_take_of_lt hlt] at a0
    rw [show (⟨g, 0 + i * s + j, none⟩ : Addr) = ⟨g, i * s + j, none⟩ by simp]
    have : w.cell? ⟨g, i * s + j, none⟩ = cur[i * s + j]? := (show Blk w g cur _ from h2).cell _
    rw [this, ← a0]; simp
theorem flat_none (hs : ∀ a, (cells a).length = s) {l : List α} {i : Nat} (h : l.length * s ≤ i) : (l.flatMap cells)[i]? = none := by
  rw [List.getElem?_eq_none_iff, flat_len hs]; exact h
/-- the cells of a slice that came in, one behind the other. -/
theorem SlC.news (hs : ∀ a, (cells a).length = s) (h0 : 0 < s) {w : World} {B n c : Nat} {ad : Addr} {l : List α} (h : SlC s cells w B (.slice (some ad) n c) l) : ∀ j u, (l.flatMap cells)[j]? = some u → w.cell? (ad.add j) = some u := by
  intro j u hj
  have hjl : j < l.length * s := by
    have := (List.getElem?_eq_some_iff.1 hj).1
    rwa [flat_len hs] at this
  obtain ⟨A', cap, e, h⟩ := h.is
  cases e
  rcases h with rfl | ⟨b, off, e', h1, h3, h4, h5⟩
  · simp at hjl
  · cases e'
    have hd := Nat.div_add_mod' j s
    have hm := Nat.mod_lt j h0
    have hi : j / s < l.length := (Nat.div_lt_iff_lt_mul h0).2 hjl
    have hr : j % s < (cells l[j / s]).length := by rw [hs]; exact hm
    have e1 := flat_get hs l (j / s) _ (List.getElem?_eq_getElem hi) (j % s) _ (List.getElem?_eq_getElem hr)
    rw [hd, hj] at e1
    have e2 := h5 (j / s) _ (List.getElem?_eq_getElem hi) (j % s) _ (List.getElem?_eq_getElem hr)
    rw [← e1, Nat.add_assoc, hd] at e2
    by_cases hz : j = 0
    · subst hz; simpa [Addr.add] using e2
    · unfold Addr.add; rw [if_neg hz]; exact e2
theorem grown_refl (w : World) (row : Option Nat) : w.grownBy w row := ⟨rfl, rfl, rfl, Nat.le_refl _, fun _ _ _ => rfl⟩
/-- append(row, x...), x a slice that came in, nil or not. -/
theorem wpList_append_C (hs : ∀ a, (cells a).length = s) {P : Program} (w : World) {ops : Array Oper} {rest : List Oper} {o : Oper} {a : Act} {Q : Exit → Act → World → Prop} (hgd : o.guard = none) (sl x : Operand) (t : TypeId)
    (ho : o.op = .call { callee := .builtin .append, args := #[sl, x], argTypes := #[t, t] })
    (base : Nat) (e : TypeId) (i : TypeInfo) (z : Value) (bytes : Nat) (ht : P.underlying t = some (.slice e)) (hi : P.info? e = some i) (hz : i.zero = some z)
    (hsize : i.size = s) (hby : i.bytes = bytes) (hzs : z.cells.size = s) (hsz : 0 < s)
    (v : Value) (n : Nat) (xs : List Value) (hsv : a.eval sl = v) (hown : w.ownsRow base e s v n xs)
    (ar : Value) (l : List α) {B : Nat} (hx : a.eval x = ar) (har : SlC s cells w B ar l) (hnone : ∀ m c, ar = .slice none m c → m = 0 ∧ c = 0) (h1 : ∀ a, ∀ u ∈ cells a, u.oneCell' = true)
    (h63 : n + l.length ≤ maxLen) (hbytes : (n + l.length) * bytes ≤ 140737488355328) (hbase : base ≤ w.heap.size)
    (h : ∀ v' w', w'.ownsRow base e s v' (n + l.length) (xs ++ l.flatMap cells) → w.grownBy w' v.ownBlock → wpList P ops Q rest (a.put o.dst v') w') : wpList P ops Q (o :: rest) a w := by
  obtain ⟨A, c, rfl⟩ := har.form
  cases A with
  | none =>
    obtain ⟨hl, rfl⟩ := hnone _ _ rfl
    have hl := List.length_eq_zero_iff.1 hl
    subst hl
    exact wpList_append_own_none hgd sl x t ho base e i s ht hi v n xs hsv hown hx (h v w (by simpa using hown) (grown_refl w _))
  | some ad =>
    exact wpList_append_own w hgd sl x t ho base e i z s bytes ht hi hz hsize hby hzs hsz v n xs hsv hown ad l.length c _ hx (flat_len hs l) (har.news hs hsz)
      (fun u hu => by obtain ⟨a, _, hu⟩ := List.mem_flatMap.1 hu; exact h1 a u hu) h63 hbytes hbase (fun v' w' h2 h3 _ => h v' w' h2 h3)
end
end Go.Proofs.Ytlpcddmcddenfaa
