/- B-trees as data, their nodes without places in memory: what an insertion makes of them; no program in sight. B-trees as rows of entries: those that are there are a map by definition, up to likeness; no program in sight. B-trees with their height: Put, Remove, Get; no program in sight. -/
import Derived.Tactics
import Derived.Test.YtjbelfbfhcmgeaaOrdMap
namespace Go.Proofs.Ytjbelfbfhcmgeaa.Bt

/-- an entry of a leaf: its key, its value, whether it is there. -/
abbrev LE := Int × Int × Bool
/-- a tree of so many levels above its leaves. -/
def BE : Nat → Type
  | 0 => List LE
  | h + 1 => List (Int × BE h)
def flatN {α : Type} (f : α → List LE) (ks : List (Int × α)) : List LE := ks.flatMap (fun e => f e.2)
def flat : (h : Nat) → BE h → List LE
  | 0, es => id (α := List LE) es
  | h + 1, ks => flatN (flat h) ks
def fstN {α : Type} (ks : List (Int × α)) : Int := match ks with
  | [] => 0
  | e :: _ => e.1
/-- the key of a node's first entry. -/
def fstK : (h : Nat) → BE h → Int
  | 0, es => fstN (α := Int × Bool) es
  | _ + 1, ks => fstN ks
variable (r : Int → Int)
/-- where a key stands in a leaf, or would. -/
def jl (k : Int) (es : List LE) : Nat := es.findIdx (fun e => decide (r k ≤ r e.1))
/-- the part of an inner node in which a key is. -/
def ji {α : Type} (k : Int) (ks : List (Int × α)) : Nat := ks.tail.findIdx (fun e => decide (r k < r e.1))
/-- a node that is full is parted. -/
def split {α : Type} (l : List α) : List α × Option (List α) := if l.length < 64 then (l, none) else (l.take 32, some (l.drop 32))
/-- one more at a place. -/
def insAt {α : Type} (j : Nat) (x : α) (l : List α) : List α := l.take j ++ x :: l.drop j
def insL (k v : Int) (b : Bool) (es : List LE) : List LE × Option (List LE) :=
  match es[jl r k es]? with
  | some e => if r e.1 = r k then (es.set (jl r k es) (e.1, v, b), none) else split (insAt (jl r k es) (k, v, b) es)
  | none => split (insAt (jl r k es) (k, v, b) es)
def insN {α : Type} (ins : α → α × Option α) (fk : α → Int) (k : Int) (ks : List (Int × α)) : List (Int × α) × Option (List (Int × α)) :=
  match ks[ji r k ks]? with
  | none => (ks, none)
  | some e =>
    match ins e.2 with
    | (c, none) => (ks.set (ji r k ks) (e.1, c), none)
    | (c, some u) => split (insAt (ji r k ks + 1) (fk u, u) (ks.set (ji r k ks) (e.1, c)))
def insE : (h : Nat) → BE h → Int → Int → Bool → BE h × Option (BE h)
  | 0, es, k, v, b => insL r k v b es
  | h + 1, ks, k, v, b => insN r (fun t => insE h t k v b) (fstK h) k ks
def getLf (k : Int) (es : List LE) : Int × Bool := match es[jl r k es]? with
  | some e => if r e.1 = r k then e.2 else (0, false)
  | none => (0, false)
def getN {α : Type} (get : α → Int × Bool) (k : Int) (ks : List (Int × α)) : Int × Bool := match ks[ji r k ks]? with
  | none => (0, false)
  | some e => get e.2
/-- what is found at a key. -/
def getE : (h : Nat) → BE h → Int → Int × Bool
  | 0, es, k => getLf r k es
  | h + 1, ks, k => getN r (fun t => getE h t k) k ks
/-! rows of entries -/
def Rise (l : List LE) : Prop := l.Pairwise (fun a b => r a.1 < r b.1)
def ups (k v : Int) (b : Bool) : List LE → List LE
  | [] => [(k, v, b)]
  | e :: es => if r e.1 < r k then e :: ups k v b es else if r e.1 = r k then (e.1, v, b) :: es else (k, v, b) :: e :: es
def look (k : Int) : List LE → Int × Bool
  | [] => (0, false)
  | e :: es => if r e.1 < r k then look k es else if r e.1 = r k then e.2 else (0, false)
/-! trees in order -/
def Sep {α : Type} (f : α → List LE) (a b : Int × α) : Prop := (∀ x ∈ f a.2, r x.1 < r b.1) ∧ (∀ y ∈ f b.2, r b.1 ≤ r y.1)
def WfN {α : Type} (wf : α → Prop) (f : α → List LE) (ks : List (Int × α)) : Prop := 0 < ks.length ∧ ks.length < 64 ∧ (∀ e ∈ ks, wf e.2 ∧ f e.2 ≠ []) ∧ ks.Pairwise (Sep r f)
def WfL (es : List LE) : Prop := Rise r es ∧ es.length < 64
def Wf : (h : Nat) → BE h → Prop
  | 0, es => WfL r es
  | h + 1, ks => WfN r (Wf h) (flat h) ks
variable {r}
theorem findIdx_split {α : Type} (p : α → Bool) : ∀ l : List α, ∃ A B, l = A ++ B ∧ A.length = l.findIdx p ∧ (∀ x ∈ A, p x = false) ∧ (∀ x, B.head? = some x → p x = true)
  | [] => ⟨[], [], rfl, rfl, (fun _ h => by cases h), (fun _ h => by cases h)⟩
  | a :: l => by
    cases ha : p a with
    | true => exact ⟨[], a :: l, rfl, by simp [List.findIdx_cons, ha], (fun _ h => by cases h), (fun x hx => by simp at hx; rw [← hx]; exact ha)⟩
    | false =>
      obtain ⟨A, B, e, h1, h2, h3⟩ := findIdx_split p l
      refine ⟨a :: A, B, by rw [e]; rfl, by simp [List.findIdx_cons, ha, h1], ?_, h3⟩
      intro x hx
      rcases List.mem_cons.1 hx with rfl | hx
      · exact ha
      · exact h2 x hx
theorem ups_left {k v : Int} {b : Bool} : ∀ {A B : List LE}, (∀ x ∈ A, r x.1 < r k) → ups r k v b (A ++ B) = A ++ ups r k v b B
  | [], _, _ => rfl
  | a :: A, B, h => by
    simp only [List.cons_append, ups]
    rw [if_pos (h a (List.mem_cons_self ..)), ups_left (fun x hx => h x (List.mem_cons_of_mem _ hx))]
theorem ups_right {k v : Int} {b : Bool} : ∀ {A B : List LE}, (∀ y ∈ B, r k < r y.1) → ups r k v b (A ++ B) = ups r k v b A ++ B
  | [], [], _ => rfl
  | [], y :: B, h => by
    have := h y (List.mem_cons_self ..)
    simp only [List.nil_append, ups]
    rw [if_neg (by omega), if_neg (by omega)]; rfl
  | a :: A, B, h => by
    simp only [List.cons_append, ups, ups_right (A := A) h]
    split
    · rfl
    · split <;> rfl
theorem look_left {k : Int} : ∀ {A B : List LE}, (∀ x ∈ A, r x.1 < r k) → look r k (A ++ B) = look r k B
  | [], _, _ => rfl
  | a :: A, B, h => by
    simp only [List.cons_append, look]
    rw [if_pos (h a (List.mem_cons_self ..)), look_left (fun x hx => h x (List.mem_cons_of_mem _ hx))]
theorem look_right {k : Int} : ∀ {A B : List LE}, (∀ y ∈ B, r k < r y.1) → look r k (A ++ B) = look r k A
  | [], [], _ => rfl
  | [], y :: B, h => by
    have := h y (List.mem_cons_self ..)
    simp only [List.nil_append, look]
    rw [if_neg (by omega), if_neg (by omega)]
  | a :: A, B, h => by
    simp only [List.cons_append, look, look_right (A := A) h]
theorem mem_ups {k v : Int} {b : Bool} : ∀ {l : List LE} {x : LE}, x ∈ ups r k v b l → r x.1 = r k ∨ x ∈ l
  | [], x, h => by simp [ups] at h; exact .inl (by rw [h])
  | e :: l, x, h => by
    simp only [ups] at h
    split at h
    · rcases List.mem_cons.1 h with rfl | h
      · exact .inr (List.mem_cons_self ..)
      · exact (mem_ups h).imp id (List.mem_cons_of_mem _)
    · split at h
      · rename_i c
        rcases List.mem_cons.1 h with rfl | h
        · exact .inl c
        · exact .inr (List.mem_cons_of_mem _ h)
      · rcases List.mem_cons.1 h with rfl | h
        · exact .inl rfl
        · exact .inr h
theorem ups_ne {k v : Int} {b : Bool} (l : List LE) : ups r k v b l ≠ [] := by
  cases l with
  | nil => simp [ups]
  | cons a l => simp only [ups]; split <;> (try split) <;> simp
theorem ups_rise {k v : Int} {b : Bool} : ∀ {l : List LE}, Rise r l → Rise r (ups r k v b l)
  | [], _ => List.pairwise_singleton _ _
  | e :: l, h => by
    unfold Rise at *
    rw [List.pairwise_cons] at h
    simp only [ups]
    split
    · rename_i c
      refine List.pairwise_cons.2 ⟨fun y hy => ?_, ups_rise h.2⟩
      rcases mem_ups hy with e | hy
      · rw [e]; exact c
      · exact h.1 y hy
    · split
      · exact List.pairwise_cons.2 ⟨h.1, h.2⟩
      · rename_i c1 c2
        refine List.pairwise_cons.2 ⟨fun y hy => ?_, List.pairwise_cons.2 h⟩
        rcases List.mem_cons.1 hy with rfl | hy
        · simp only; omega
        · have := h.1 y hy; simp only; omega
/-- the place in a leaf. -/
theorem jl_split (k : Int) (es : List LE) : ∃ A B, es = A ++ B ∧ A.length = jl r k es ∧ (∀ x ∈ A, r x.1 < r k) ∧ (∀ y, B.head? = some y → r k ≤ r y.1) := by
  obtain ⟨A, B, e, h1, h2, h3⟩ := findIdx_split (fun e : LE => decide (r k ≤ r e.1)) es
  exact ⟨A, B, e, h1, fun x hx => by have := of_decide_eq_false (h2 x hx); omega, fun y hy => of_decide_eq_true (h3 y hy)⟩
theorem split_flat {α β : Type} (f : α → List β) (l : List α) : (match split l with | (a, none) => a.flatMap f | (a, some u) => a.flatMap f ++ u.flatMap f) = l.flatMap f := by
  unfold split
  split <;> rename_i h <;> split at h <;> simp only [Prod.mk.injEq, reduceCtorEq, Option.some.injEq, and_false] at h
  · rw [← h.1]
  · obtain ⟨rfl, rfl⟩ := h
    rw [← List.flatMap_append, List.take_append_drop]
def flat2 {α : Type} (f : α → List LE) : α × Option α → List LE
  | (t, none) => f t
  | (t, some u) => f t ++ f u
/-- a node, or two behind a parting. -/
def Wf2 {α : Type} (r : Int → Int) (wf : α → Prop) (f : α → List LE) (fk : α → Int) : α × Option α → Prop
  | (t, none) => wf t ∧ f t ≠ []
  | (t, some u) => wf t ∧ wf u ∧ f t ≠ [] ∧ f u ≠ [] ∧ (∀ x ∈ f t, r x.1 < r (fk u)) ∧ (∀ y ∈ f u, r (fk u) ≤ r y.1)
theorem insL_flat {k v : Int} {b : Bool} {es : List LE} (hr : Rise r es) (hl : es.length < 64) : flat2 id (insL r k v b es) = ups r k v b es ∧ Wf2 r (WfL r) id fstN (insL r k v b es) := by
  obtain ⟨A, B, e, h1, h2, h3⟩ := jl_split (r := r) k es
  have hu := ups_rise (k := k) (v := v) (b := b) hr
  have key : ∀ l : List LE, l = ups r k v b es → l.length ≤ 64 → flat2 id (split l) = ups r k v b es ∧ Wf2 r (WfL r) id fstN (split l) := by
    intro l el hl64
    subst el
    unfold split
    split
    · rename_i c
      exact ⟨rfl, ⟨hu, c⟩, ups_ne es⟩
    · rename_i c
      have hlen : (ups r k v b es).length = 64 := by omega
      generalize ups r k v b es = l at *
      have hd : l.take 32 ++ l.drop 32 = l := List.take_append_drop ..
      have hu' := hu
      unfold Rise at hu'
      rw [← hd, List.pairwise_append] at hu'
      obtain ⟨p1, p2, p3⟩ := hu'
      have hdl : (l.drop 32).length = 32 := by rw [List.length_drop]; omega
      have htl : (l.take 32).length = 32 := by rw [List.length_take]; omega
      refine ⟨hd, ⟨p1, by show (l.take 32).length < 64; omega⟩, ⟨p2, by show (l.drop 32).length < 64; omega⟩, ?_, ?_, ?_, ?_⟩
      · show l.take 32 ≠ []; intro h0; rw [h0] at htl; simp at htl
      · show l.drop 32 ≠ []; intro h0; rw [h0] at hdl; simp at hdl
      · show ∀ x ∈ l.take 32, r x.1 < r (fstN (l.drop 32))
        cases hq : l.drop 32 with
        | nil => rw [hq] at hdl; simp at hdl
        | cons y ys => intro x hx; exact p3 x hx y (by rw [hq]; exact List.mem_cons_self ..)
      · show ∀ y ∈ l.drop 32, r (fstN (l.drop 32)) ≤ r y.1
        cases hq : l.drop 32 with
        | nil => intro y hy; cases hy
        | cons z zs =>
          rw [hq, List.pairwise_cons] at p2
          intro y hy
          show r z.1 ≤ r y.1
          rcases List.mem_cons.1 hy with rfl | hy
          · omega
          · have := p2.1 y hy; omega
  subst e
  unfold insL
  rw [← h1, List.getElem?_append_right (Nat.le_refl _), Nat.sub_self]
  have hins : insAt A.length (k, v, b) (A ++ B) = A ++ (k, v, b) :: B := by simp [insAt]
  rw [ups_left h2] at key hu ⊢
  cases B with
  | nil =>
    simp only [List.getElem?_nil, hins]
    exact key _ rfl (by simp at hl ⊢; omega)
  | cons y B =>
    have hy := h3 y rfl
    simp only [List.getElem?_cons_zero]
    split
    · rename_i c
      have e1 : ups r k v b (y :: B) = (y.1, v, b) :: B := by simp only [ups]; rw [if_neg (by omega), if_pos c]
      rw [e1] at hu ⊢
      have e2 : (A ++ y :: B).set A.length (y.1, v, b) = A ++ (y.1, v, b) :: B := by simp
      rw [e2]
      exact ⟨rfl, ⟨hu, by simp at hl ⊢; omega⟩, by simp⟩
    · rename_i c
      have e1 : ups r k v b (y :: B) = (k, v, b) :: y :: B := by simp only [ups]; rw [if_neg (by omega), if_neg (by omega)]
      rw [hins]
      exact key _ (by rw [e1]) (by simp at hl ⊢; omega)
/-- the part of an inner node in which a key is: what stands ahead is less, what stands behind is greater. -/
theorem ji_split {α : Type} {f : α → List LE} {wf : α → Prop} (k : Int) {ks : List (Int × α)} (h : WfN r wf f ks) :
    ∃ A e B, ks = A ++ e :: B ∧ A.length = ji r k ks ∧ (∀ x ∈ flatN f A, r x.1 < r k) ∧ (∀ y ∈ flatN f B, r k < r y.1) ∧ (A ≠ [] → r e.1 ≤ r k) ∧ (∀ b, B.head? = some b → r k < r b.1) := by
  obtain ⟨h0, h1, h2, h3⟩ := h
  cases ks with
  | nil => simp at h0
  | cons a ks =>
    obtain ⟨A, B, e, g1, g2, g3⟩ := findIdx_split (fun e : Int × α => decide (r k < r e.1)) ks
    subst e
    obtain ⟨L, e, hL⟩ : ∃ L e, a :: A = L ++ [e] := by
      rcases List.eq_nil_or_concat (a :: A) with h | ⟨L, e, h⟩
      · cases h
      · exact ⟨L, e, by rw [h, List.concat_eq_append]⟩
    have hlen : L.length = A.length := by have := congrArg List.length hL; simp at this; omega
    have hall : a :: (A ++ B) = L ++ e :: B := by rw [← List.cons_append, hL]; simp
    have hle : L ≠ [] → r e.1 ≤ r k := by
      intro hne
      cases A with
      | nil => simp at hlen; exact absurd hlen hne
      | cons a2 A =>
        have hm : e ∈ a2 :: A := by
          cases L with
          | nil => exact absurd rfl hne
          | cons l L => simp only [List.cons_append, List.cons.injEq] at hL; rw [hL.2]; simp
        have := of_decide_eq_false (g2 e hm)
        omega
    rw [hall] at h2 h3
    rw [hall]
    rw [List.pairwise_append, List.pairwise_cons] at h3
    obtain ⟨p1, ⟨p2, p3⟩, p4⟩ := h3
    refine ⟨L, e, B, rfl, by rw [hlen, g1, ← hall]; rfl, ?_, ?_, hle, fun b hb => of_decide_eq_true (g3 b hb)⟩
    · intro x hx
      obtain ⟨c, hc, hx⟩ := List.mem_flatMap.1 hx
      have q1 := (p4 c hc e (List.mem_cons_self ..)).1 x hx
      have q2 := hle (by intro h; rw [h] at hc; cases hc)
      omega
    · intro y hy
      obtain ⟨b, hb, hy⟩ := List.mem_flatMap.1 hy
      have q1 := (p2 b hb).2 y hy
      cases B with
      | nil => cases hb
      | cons b0 B =>
        have q0 := of_decide_eq_true (g3 b0 rfl)
        rcases List.mem_cons.1 hb with rfl | hb'
        · omega
        · have hne := (h2 b0 (by simp)).2
          obtain ⟨x0, xs, hx0⟩ := List.exists_cons_of_ne_nil hne
          have hm : x0 ∈ f b0.2 := by rw [hx0]; exact List.mem_cons_self ..
          have q2 := (p2 b0 (List.mem_cons_self ..)).2 x0 hm
          have q3 := ((List.pairwise_cons.1 p3).1 b hb').1 x0 hm
          omega
theorem flatN_append {α : Type} {f : α → List LE} (A B : List (Int × α)) : flatN f (A ++ B) = flatN f A ++ flatN f B := List.flatMap_append ..
theorem flatN_cons {α : Type} {f : α → List LE} (e : Int × α) (B : List (Int × α)) : flatN f (e :: B) = f e.2 ++ flatN f B := rfl
/-- what an inner node's insertion makes, if its parts' insertions are right. -/
theorem insN_flat {α : Type} {f : α → List LE} {wf : α → Prop} {ins : α → α × Option α} {fk : α → Int} {k v : Int} {b : Bool} {ks : List (Int × α)} (h : WfN r wf f ks)
    (hi : ∀ t, wf t → flat2 f (ins t) = ups r k v b (f t) ∧ Wf2 r wf f fk (ins t)) :
    flat2 (flatN f) (insN r ins fk k ks) = ups r k v b (flatN f ks) ∧ Wf2 r (WfN r wf f) (flatN f) fstN (insN r ins fk k ks) := by
  obtain ⟨A, e, B, e0, g1, g2, g3, g4, g5⟩ := ji_split k h
  obtain ⟨h0, h1, h2, h3⟩ := h
  subst e0
  have hw := h2 e (by simp)
  obtain ⟨i1, i2⟩ := hi e.2 hw.1
  rw [List.pairwise_append, List.pairwise_cons] at h3
  obtain ⟨p1, ⟨p2, p3⟩, p4⟩ := h3
  have hu : ups r k v b (flatN f (A ++ e :: B)) = flatN f A ++ (ups r k v b (f e.2) ++ flatN f B) := by
    rw [flatN_append, flatN_cons, ups_left g2, ups_right g3]
  have hkB : ∀ b' ∈ B, r k < r b'.1 := by
    intro b' hb'
    cases B with
    | nil => cases hb'
    | cons b0 B =>
      have q0 := g5 b0 rfl
      rcases List.mem_cons.1 hb' with rfl | hb2
      · exact q0
      · obtain ⟨x0, xs, hx0⟩ := List.exists_cons_of_ne_nil (h2 b0 (by simp)).2
        have hm : x0 ∈ f b0.2 := by rw [hx0]; exact List.mem_cons_self ..
        have q2 := (p2 b0 (List.mem_cons_self ..)).2 x0 hm
        have q3 := ((List.pairwise_cons.1 p3).1 b' hb2).1 x0 hm
        omega
  have hlo : A ≠ [] → ∀ x ∈ ups r k v b (f e.2), r e.1 ≤ r x.1 := by
    intro hA x hx
    have := g4 hA
    rcases mem_ups hx with q | q
    · omega
    · obtain ⟨a, A', rfl⟩ := List.exists_cons_of_ne_nil hA
      exact (p4 a (List.mem_cons_self ..) e (List.mem_cons_self ..)).2 x q
  have hhi : ∀ b' ∈ B, ∀ x ∈ ups r k v b (f e.2), r x.1 < r b'.1 := by
    intro b' hb' x hx
    rcases mem_ups hx with q | q
    · have := hkB b' hb'; omega
    · exact (p2 b' hb').1 x q
  rw [hu]
  unfold insN
  rw [← g1, List.getElem?_append_right (Nat.le_refl _), Nat.sub_self]
  simp only [List.getElem?_cons_zero]
  generalize hq : ins e.2 = q at i1 i2
  obtain ⟨c, u⟩ := q
  cases u with
  | none =>
    simp only [flat2] at i1
    have e2 : (A ++ e :: B).set A.length (e.1, c) = A ++ (e.1, c) :: B := by simp
    simp only [e2]
    refine ⟨by simp only [flat2]; rw [flatN_append, flatN_cons, i1], ⟨by simp; omega, by simp at h1 ⊢; omega, ?_, ?_⟩, ?_⟩
    · intro x hx
      rcases List.mem_append.1 hx with hx | hx
      · exact h2 x (by simp [hx])
      · rcases List.mem_cons.1 hx with rfl | hx
        · exact i2
        · exact h2 x (by simp [hx])
    · rw [List.pairwise_append, List.pairwise_cons]
      refine ⟨p1, ⟨fun x hx => ⟨by rw [i1]; exact hhi x hx, (p2 x hx).2⟩, p3⟩, fun a ha x hx => ?_⟩
      rcases List.mem_cons.1 hx with rfl | hx
      · exact ⟨(p4 a ha e (List.mem_cons_self ..)).1, by rw [i1]; exact hlo (by intro h; rw [h] at ha; cases ha)⟩
      · exact p4 a ha x (List.mem_cons_of_mem _ hx)
    · rw [flatN_append, flatN_cons]
      intro h
      have := (List.append_eq_nil_iff.1 (List.append_eq_nil_iff.1 h).2).1
      exact i2.2 this
  | some u =>
    simp only [flat2] at i1
    obtain ⟨w1, w2, n1, n2, s1, s2⟩ := i2
    have e2 : insAt (A.length + 1) (fk u, u) ((A ++ e :: B).set A.length (e.1, c)) = A ++ (e.1, c) :: (fk u, u) :: B := by
      have : (A ++ e :: B).set A.length (e.1, c) = (A ++ [(e.1, c)]) ++ B := by simp
      rw [this]
      have hl : A.length + 1 = (A ++ [(e.1, c)]).length := by simp
      unfold insAt
      rw [hl, List.take_left', List.drop_left'] <;> simp
    simp only [e2]
    have hmc : ∀ x ∈ f c, x ∈ ups r k v b (f e.2) := fun x hx => by rw [← i1]; exact List.mem_append_left _ hx
    have hmu : ∀ x ∈ f u, x ∈ ups r k v b (f e.2) := fun x hx => by rw [← i1]; exact List.mem_append_right _ hx
    have hE : ∀ x ∈ A ++ (e.1, c) :: (fk u, u) :: B, wf x.2 ∧ f x.2 ≠ [] := by
      intro x hx
      rcases List.mem_append.1 hx with hx | hx
      · exact h2 x (by simp [hx])
      · rcases List.mem_cons.1 hx with rfl | hx
        · exact ⟨w1, n1⟩
        · rcases List.mem_cons.1 hx with rfl | hx
          · exact ⟨w2, n2⟩
          · exact h2 x (by simp [hx])
    have hP : (A ++ (e.1, c) :: (fk u, u) :: B).Pairwise (Sep r f) := by
      rw [List.pairwise_append, List.pairwise_cons, List.pairwise_cons]
      refine ⟨p1, ⟨?_, fun x hx => ⟨fun y hy => hhi x hx y (hmu y hy), (p2 x hx).2⟩, p3⟩, fun a ha x hx => ?_⟩
      · intro x hx
        rcases List.mem_cons.1 hx with rfl | hx
        · exact ⟨s1, s2⟩
        · exact ⟨fun y hy => hhi x hx y (hmc y hy), (p2 x hx).2⟩
      · have hA : A ≠ [] := by intro h; rw [h] at ha; cases ha
        have hae := p4 a ha e (List.mem_cons_self ..)
        rcases List.mem_cons.1 hx with rfl | hx
        · exact ⟨hae.1, fun y hy => hlo hA y (hmc y hy)⟩
        · rcases List.mem_cons.1 hx with rfl | hx
          · refine ⟨fun y hy => ?_, s2⟩
            obtain ⟨x0, xs, hx0⟩ := List.exists_cons_of_ne_nil n1
            have hm : x0 ∈ f c := by rw [hx0]; exact List.mem_cons_self ..
            have q1 := hae.1 y hy
            have q2 := hlo hA x0 (hmc x0 hm)
            have q3 := s1 x0 hm
            simp only at q3 ⊢; omega
          · exact p4 a ha x (List.mem_cons_of_mem _ hx)
    have hF : flatN f (A ++ (e.1, c) :: (fk u, u) :: B) = flatN f A ++ (ups r k v b (f e.2) ++ flatN f B) := by
      rw [flatN_append, flatN_cons, flatN_cons, ← i1]; simp
    have hlen : (A ++ (e.1, c) :: (fk u, u) :: B).length ≤ 64 := by simp at h1 ⊢; omega
    have h3' : 0 < (A ++ (e.1, c) :: (fk u, u) :: B).length := by simp; omega
    have hne : ∀ l : List (Int × α), l ≠ [] → (∀ x ∈ l, f x.2 ≠ []) → flatN f l ≠ [] := by
      intro l hl hx h
      obtain ⟨x, xs, rfl⟩ := List.exists_cons_of_ne_nil hl
      rw [flatN_cons] at h
      exact hx x (List.mem_cons_self ..) (List.append_eq_nil_iff.1 h).1
    generalize A ++ (e.1, c) :: (fk u, u) :: B = l at *
    clear e2
    unfold split
    split
    · rename_i cl
      exact ⟨hF, ⟨h3', cl, hE, hP⟩, hne l (by intro h; rw [h] at h3'; simp at h3') (fun x hx => (hE x hx).2)⟩
    · rename_i cl
      have hd : l.take 32 ++ l.drop 32 = l := List.take_append_drop ..
      have hdl : (l.drop 32).length = 32 := by rw [List.length_drop]; omega
      have htl : (l.take 32).length = 32 := by rw [List.length_take]; omega
      have hd1 : l.drop 32 ≠ [] := by intro h0; rw [h0] at hdl; simp at hdl
      have ht1 : l.take 32 ≠ [] := by intro h0; rw [h0] at htl; simp at htl
      rw [← hd, List.pairwise_append] at hP
      obtain ⟨q1, q2, q3⟩ := hP
      have hEt : ∀ x ∈ l.take 32, wf x.2 ∧ f x.2 ≠ [] := fun x hx => hE x (List.mem_of_mem_take hx)
      have hEd : ∀ x ∈ l.drop 32, wf x.2 ∧ f x.2 ≠ [] := fun x hx => hE x (List.mem_of_mem_drop hx)
      refine ⟨by show flatN f (l.take 32) ++ flatN f (l.drop 32) = _; rw [← flatN_append, hd, hF], ⟨by omega, by omega, hEt, q1⟩, ⟨by omega, by omega, hEd, q2⟩, hne _ ht1 (fun x hx => (hEt x hx).2), hne _ hd1 (fun x hx => (hEd x hx).2), ?_, ?_⟩
      · obtain ⟨z, zs, hz⟩ := List.exists_cons_of_ne_nil hd1
        intro x hx
        obtain ⟨a, ha, hx⟩ := List.mem_flatMap.1 hx
        rw [hz]
        exact (q3 a ha z (by rw [hz]; exact List.mem_cons_self ..)).1 x hx
      · obtain ⟨z, zs, hz⟩ := List.exists_cons_of_ne_nil hd1
        obtain ⟨a, as, ha⟩ := List.exists_cons_of_ne_nil ht1
        intro y hy
        obtain ⟨b', hb', hy⟩ := List.mem_flatMap.1 hy
        have hz2 := (q3 a (by rw [ha]; exact List.mem_cons_self ..) z (by rw [hz]; exact List.mem_cons_self ..)).2
        rw [hz] at hb' q2 ⊢
        show r z.1 ≤ r y.1
        rcases List.mem_cons.1 hb' with rfl | hb2
        · exact hz2 y hy
        · rw [List.pairwise_cons] at q2
          obtain ⟨x0, xs, hx0⟩ := List.exists_cons_of_ne_nil (hEd z (by rw [hz]; exact List.mem_cons_self ..)).2
          have hm : x0 ∈ f z.2 := by rw [hx0]; exact List.mem_cons_self ..
          have q5 := hz2 x0 hm
          have q6 := (q2.1 b' hb2).1 x0 hm
          have q7 := (q2.1 b' hb2).2 y hy
          omega
theorem insE_flat {k v : Int} {b : Bool} : ∀ (h : Nat) (t : BE h), Wf r h t → flat2 (flat h) (insE r h t k v b) = ups r k v b (flat h t) ∧ Wf2 r (Wf r h) (flat h) (fstK h) (insE r h t k v b)
  | 0, _, hw => insL_flat hw.1 hw.2
  | h + 1, _, hw => insN_flat hw (fun t ht => insE_flat h t ht)
theorem getL_flat {k : Int} {es : List LE} : getLf r k es = look r k es := by
  obtain ⟨A, B, e, h1, h2, h3⟩ := jl_split (r := r) k es
  subst e
  unfold getLf
  rw [← h1, List.getElem?_append_right (Nat.le_refl _), Nat.sub_self, look_left h2]
  cases B with
  | nil => rfl
  | cons y B =>
    have hy := h3 y rfl
    simp only [List.getElem?_cons_zero, look]
    rw [if_neg (show ¬ r y.1 < r k by omega)]
theorem getN_flat {α : Type} {f : α → List LE} {wf : α → Prop} {get : α → Int × Bool} {k : Int} {ks : List (Int × α)} (h : WfN r wf f ks) (hg : ∀ t, wf t → get t = look r k (f t)) : getN r get k ks = look r k (flatN f ks) := by
  obtain ⟨A, e, B, e0, g1, g2, g3, _, _⟩ := ji_split k h
  subst e0
  unfold getN
  rw [← g1, List.getElem?_append_right (Nat.le_refl _), Nat.sub_self]
  simp only [List.getElem?_cons_zero]
  rw [flatN_append, flatN_cons, look_left g2, look_right g3]
  exact hg _ (h.2.2.1 e (by simp)).1
theorem getE_flat {k : Int} : ∀ (h : Nat) (t : BE h), Wf r h t → getE r h t k = look r k (flat h t)
  | 0, _, _ => getL_flat
  | h + 1, _, hw => getN_flat hw (fun t ht => getE_flat h t ht)
end Go.Proofs.Ytjbelfbfhcmgeaa.Bt
namespace Go.Proofs.Ytjbelfbfhcmgeaa.Bt
open Om
variable {r : Int → Int}
def live : List LE → R
  | [] => []
  | e :: F => if e.2.2 then (e.1, e.2.1) :: live F else live F
/-- keys that are alike, the same values. -/
inductive LikeR (r : Int → Int) : R → R → Prop
  | nil : LikeR r [] []
  | cons {x y : Int × Int} {a b : R} (h1 : r x.1 = r y.1) (h2 : x.2 = y.2) (h : LikeR r a b) : LikeR r (x :: a) (y :: b)
theorem LikeR.len {a b : R} (h : LikeR r a b) : a.length = b.length := by
  induction h with
  | nil => rfl
  | cons _ _ _ ih => simp [ih]
theorem LikeR.vals {a b : R} (h : LikeR r a b) : a.map Prod.snd = b.map Prod.snd := by
  induction h with
  | nil => rfl
  | cons _ h2 _ ih => simp [ih, h2]
theorem LikeR.keys {a b : R} (h : LikeR r a b) : (a.map Prod.fst).map r = (b.map Prod.fst).map r := by
  induction h with
  | nil => rfl
  | cons h1 _ _ ih => simp only [List.map_cons, h1, ih]
theorem LikeR.mem {a b : R} (h : LikeR r a b) : ∀ y ∈ b, ∃ x ∈ a, r x.1 = r y.1 := by
  induction h with
  | nil => intro y hy; cases hy
  | cons h1 _ _ ih =>
    intro y hy
    rcases List.mem_cons.1 hy with rfl | hy
    · exact ⟨_, List.mem_cons_self .., h1⟩
    · obtain ⟨x, hx, e⟩ := ih y hy
      exact ⟨x, List.mem_cons_of_mem _ hx, e⟩
theorem live_mem : ∀ {F : List LE} {x : Int × Int}, x ∈ live F → ∃ e ∈ F, e.1 = x.1
  | [], x, h => by cases h
  | e :: F, x, h => by
    unfold live at h
    split at h
    · rcases List.mem_cons.1 h with rfl | h
      · exact ⟨e, List.mem_cons_self .., rfl⟩
      · obtain ⟨e', h1, h2⟩ := live_mem h
        exact ⟨e', List.mem_cons_of_mem _ h1, h2⟩
    · obtain ⟨e', h1, h2⟩ := live_mem h
      exact ⟨e', List.mem_cons_of_mem _ h1, h2⟩
theorem live_gt {F : List LE} {m : R} {k : Int} (h : LikeR r (live F) m) (hF : ∀ e ∈ F, r k < r e.1) : ∀ x ∈ m, r k < r x.1 := by
  intro x hx
  obtain ⟨y, hy, e⟩ := h.mem x hx
  obtain ⟨e', h1, h2⟩ := live_mem hy
  have := hF e' h1
  rw [h2] at this; omega
theorem putL_lt {k v : Int} {m : R} (h : ∀ x ∈ m, r k < r x.1) : putL r k v m = (k, v) :: m := by
  cases m with
  | nil => rfl
  | cons x m => unfold putL; rw [if_pos (h x (List.mem_cons_self ..))]
theorem put_like {k v : Int} : ∀ {F : List LE} {m : R}, Rise r F → LikeR r (live F) m → LikeR r (live (ups r k v true F)) (putL r k v m)
  | [], _, _, h => by cases h; exact .cons rfl rfl .nil
  | e :: F, m, hr, h => by
    unfold Rise at hr
    rw [List.pairwise_cons] at hr
    obtain ⟨h1, h2⟩ := hr
    obtain ⟨ek, ev, eb⟩ := e
    simp only at h1
    cases eb with
    | false =>
      have h' : LikeR r (live F) m := h
      simp only [ups]
      split
      · exact put_like h2 h'
      · split
        · rename_i c
          have := putL_lt (v := v) (live_gt h' (k := k) (fun e he => by have := h1 e he; omega))
          rw [this]
          exact .cons c rfl h'
        · have := putL_lt (v := v) (live_gt h' (k := k) (fun e he => by have := h1 e he; omega))
          rw [this]
          exact .cons rfl rfl h'
    | true =>
      have h' : LikeR r ((ek, ev) :: live F) m := h
      cases h' with
      | cons e1 e2 h' =>
        simp only at e1 e2
        rename_i y m'
        simp only [ups, putL]
        split
        · rename_i c
          rw [if_neg (by omega), if_pos (by omega)]
          exact .cons e1 e2 (put_like h2 h')
        · split
          · rw [if_neg (by omega), if_neg (by omega)]
            exact .cons e1 rfl h'
          · rw [if_pos (by omega)]
            exact .cons rfl rfl (.cons e1 e2 h')
theorem remL_gt {k : Int} {m : R} (h : ∀ x ∈ m, r k < r x.1) : remL r k m = m := remL_none (fun x hx => by have := h x hx; omega)
theorem rem_like {k v : Int} : ∀ {F : List LE} {m : R}, Rise r F → LikeR r (live F) m → (look r k F).2 = true → LikeR r (live (ups r k v false F)) (remL r k m)
  | [], _, _, _, hl => by simp [look] at hl
  | e :: F, m, hr, h, hl => by
    unfold Rise at hr
    rw [List.pairwise_cons] at hr
    obtain ⟨h1, h2⟩ := hr
    obtain ⟨ek, ev, eb⟩ := e
    simp only at h1
    simp only [look] at hl
    cases eb with
    | false =>
      have h' : LikeR r (live F) m := h
      simp only [ups]
      split
      · rename_i c; rw [if_pos c] at hl; exact rem_like h2 h' hl
      · rename_i c
        rw [if_neg c] at hl
        split at hl
        · cases hl
        · cases hl
    | true =>
      have h' : LikeR r ((ek, ev) :: live F) m := h
      cases h' with
      | cons e1 e2 h' =>
        simp only at e1 e2
        rename_i y m'
        simp only [ups]
        rw [remL_cons]
        split
        · rename_i c
          rw [if_pos c] at hl
          rw [if_neg (by omega)]
          exact .cons e1 e2 (rem_like h2 h' hl)
        · rename_i c
          rw [if_neg c] at hl
          split at hl
          · rename_i c2
            rw [if_pos c2, if_pos (by omega), remL_gt (live_gt h' (k := k) (fun e he => by have := h1 e he; omega))]
            exact h'
          · cases hl
theorem rem_none {k : Int} : ∀ {F : List LE} {m : R}, Rise r F → LikeR r (live F) m → (look r k F).2 = false → remL r k m = m
  | [], _, _, h, _ => by cases h; rfl
  | e :: F, m, hr, h, hl => by
    unfold Rise at hr
    rw [List.pairwise_cons] at hr
    obtain ⟨h1, h2⟩ := hr
    obtain ⟨ek, ev, eb⟩ := e
    simp only at h1
    simp only [look] at hl
    have hgt : ∀ {m' : R}, LikeR r (live F) m' → ¬ r ek < r k → remL r k m' = m' := fun h' c => remL_gt (live_gt h' (k := k) (fun e he => by have := h1 e he; omega))
    cases eb with
    | false =>
      have h' : LikeR r (live F) m := h
      split at hl
      · exact rem_none h2 h' hl
      · rename_i c; exact hgt h' c
    | true =>
      have h' : LikeR r ((ek, ev) :: live F) m := h
      cases h' with
      | cons e1 e2 h' =>
        simp only at e1
        split at hl
        · rw [remL_cons, if_neg (by omega), rem_none h2 h' hl]
        · rename_i c
          split at hl
          · cases hl
          · rw [remL_cons, if_neg (by omega), hgt h' c]
theorem get_like {k : Int} : ∀ {F : List LE} {m : R}, Rise r F → LikeR r (live F) m → ((look r k F).2 = true → ∃ p, getL r k m = some p ∧ p.2 = (look r k F).1) ∧ ((look r k F).2 = false → getL r k m = none)
  | [], _, _, h => by cases h; exact ⟨(fun h => by simp [look] at h), fun _ => rfl⟩
  | e :: F, m, hr, h => by
    unfold Rise at hr
    rw [List.pairwise_cons] at hr
    obtain ⟨h1, h2⟩ := hr
    obtain ⟨ek, ev, eb⟩ := e
    simp only at h1
    simp only [look]
    have hgt : ∀ {m' : R}, LikeR r (live F) m' → ¬ r ek < r k → getL r k m' = none := fun h' c => find_none (fun x hx => by have := live_gt h' (k := k) (fun e he => by have := h1 e he; omega) x hx; omega)
    cases eb with
    | false =>
      have h' : LikeR r (live F) m := h
      split
      · exact get_like h2 h'
      · rename_i c
        split
        · exact ⟨(fun h => by cases h), fun _ => hgt h' c⟩
        · exact ⟨(fun h => by cases h), fun _ => hgt h' c⟩
    | true =>
      have h' : LikeR r ((ek, ev) :: live F) m := h
      cases h' with
      | cons e1 e2 h' =>
        simp only at e1 e2
        rename_i y m'
        split
        · rw [getL_tail (by omega)]; exact get_like h2 h'
        · rename_i c
          split
          · rw [getL_head (by omega)]
            exact ⟨fun _ => ⟨y, rfl, e2.symm⟩, (fun h => by cases h)⟩
          · rw [getL_tail (by omega)]
            exact ⟨(fun h => by cases h), fun _ => hgt h' c⟩
theorem ups_len {k v : Int} {b : Bool} : ∀ F : List LE, (ups r k v b F).length ≤ F.length + 1
  | [] => by simp [ups]
  | e :: F => by
    have := ups_len (k := k) (v := v) (b := b) F
    unfold ups
    split
    · simp; omega
    · split <;> simp
theorem live_len : ∀ F : List LE, (live F).length ≤ F.length
  | [] => Nat.le_refl _
  | e :: F => by
    have := live_len F
    unfold live
    split <;> simp <;> omega
end Go.Proofs.Ytjbelfbfhcmgeaa.Bt
namespace Go.Proofs.Ytjbelfbfhcmgeaa.Bt
open Om
variable {r : Int → Int}
theorem ins_hasL {k v : Int} {b : Bool} {es : List LE} (hg : (getLf r k es).2 = true) : (insL r k v b es).2 = none := by
  unfold getLf at hg
  unfold insL
  cases he : es[jl r k es]? with
  | none => simp [he] at hg
  | some e =>
    rw [he] at hg
    simp only at hg ⊢
    split at hg
    · rename_i c; rw [if_pos c]
    · cases hg
theorem ins_hasN {α : Type} {ins : α → α × Option α} {get : α → Int × Bool} {fk : α → Int} {k : Int} {ks : List (Int × α)} (hi : ∀ t, (get t).2 = true → (ins t).2 = none) (hg : (getN r get k ks).2 = true) : (insN r ins fk k ks).2 = none := by
  unfold getN at hg
  unfold insN
  cases he : ks[ji r k ks]? with
  | none => simp [he] at hg
  | some e =>
    rw [he] at hg
    simp only at hg ⊢
    have ih := hi e.2 hg
    generalize ins e.2 = q at ih
    obtain ⟨c, u⟩ := q
    simp only at ih
    subst ih
    rfl
/-- where a key is there, nothing is parted. -/
theorem ins_has {k v : Int} {b : Bool} : ∀ (h : Nat) (t : BE h), (getE r h t k).2 = true → (insE r h t k v b).2 = none
  | 0, _, hg => ins_hasL hg
  | h + 1, _, hg => ins_hasN (get := fun t => getE r h t k) (fun t ht => ins_has h t ht) hg
/-- a tree with its height. -/
abbrev BT := Σ h, BE h
def BT.flat (s : BT) : List LE := Bt.flat s.1 s.2
def BT.Wf (r : Int → Int) (s : BT) : Prop := Bt.Wf r s.1 s.2
def putB (r : Int → Int) (k v : Int) (s : BT) : BT :=
  match insE r s.1 s.2 k v true with
  | (t, none) => ⟨s.1, t⟩
  | (t, some u) => ⟨s.1 + 1, [(fstK s.1 t, t), (fstK s.1 u, u)]⟩
def remB (r : Int → Int) (k : Int) (s : BT) : BT := if (getE r s.1 s.2 k).2 then ⟨s.1, (insE r s.1 s.2 k 0 false).1⟩ else s
def newB : BT := ⟨0, ([] : List LE)⟩
theorem newB_wf : newB.Wf r := ⟨List.Pairwise.nil, (by decide : (0 : Nat) < 64)⟩
theorem wf_rise : ∀ (h : Nat) (t : BE h), Bt.Wf r h t → Rise r (Bt.flat h t)
  | 0, _, hw => hw.1
  | h + 1, ks, hw => by
    obtain ⟨h0, h1, h2, h3⟩ := hw
    show Rise r (flatN (Bt.flat h) ks)
    clear h0 h1
    induction ks with
    | nil => exact List.Pairwise.nil
    | cons a ks ih =>
      rw [List.pairwise_cons] at h3
      rw [flatN_cons]
      unfold Rise
      rw [List.pairwise_append]
      refine ⟨wf_rise h a.2 (h2 a (List.mem_cons_self ..)).1, ih (fun e he => h2 e (List.mem_cons_of_mem _ he)) h3.2, fun x hx y hy => ?_⟩
      obtain ⟨c, hc, hy⟩ := List.mem_flatMap.1 hy
      have q := h3.1 c hc
      have q1 := q.1 x hx
      have q2 := q.2 y hy
      omega
theorem BT.Wf.rise {s : BT} (h : s.Wf r) : Rise r s.flat := wf_rise s.1 s.2 h
theorem putB_flat {k v : Int} {s : BT} (h : s.Wf r) : (putB r k v s).flat = ups r k v true s.flat ∧ (putB r k v s).Wf r := by
  obtain ⟨n, t⟩ := s
  obtain ⟨h1, h2⟩ := insE_flat (r := r) (k := k) (v := v) (b := true) n t h
  unfold putB
  simp only
  generalize insE r n t k v true = q at h1 h2
  obtain ⟨t', u⟩ := q
  cases u with
  | none => exact ⟨h1, h2.1⟩
  | some u =>
    obtain ⟨w1, w2, n1, n2, s1, s2⟩ := h2
    refine ⟨?_, ?_⟩
    · show flatN (Bt.flat n) [(fstK n t', t'), (fstK n u, u)] = _
      rw [flatN_cons, flatN_cons]
      show _ ++ (_ ++ []) = _
      rw [List.append_nil]
      exact h1
    · show WfN r (Bt.Wf r n) (Bt.flat n) [(fstK n t', t'), (fstK n u, u)]
      refine ⟨by simp, by simp, ?_, ?_⟩
      · intro e he
        rcases List.mem_cons.1 he with rfl | he
        · exact ⟨w1, n1⟩
        · rcases List.mem_cons.1 he with rfl | he
          · exact ⟨w2, n2⟩
          · cases he
      · refine List.pairwise_cons.2 ⟨?_, List.pairwise_singleton _ _⟩
        intro e he
        rcases List.mem_cons.1 he with rfl | he
        · exact ⟨s1, s2⟩
        · cases he
theorem getB_flat {k : Int} {s : BT} (h : s.Wf r) : getE r s.1 s.2 k = look r k s.flat := getE_flat s.1 s.2 h
theorem remB_flat {k : Int} {s : BT} (h : s.Wf r) : (remB r k s).flat = (if (look r k s.flat).2 then ups r k 0 false s.flat else s.flat) ∧ (remB r k s).Wf r := by
  unfold remB
  rw [getB_flat h]
  split
  · rename_i c
    obtain ⟨n, t⟩ := s
    have hn := ins_has (v := 0) (b := false) n t (k := k) (r := r) (by rw [getB_flat (s := ⟨n, t⟩) h]; exact c)
    obtain ⟨h1, h2⟩ := insE_flat (r := r) (k := k) (v := 0) (b := false) n t h
    generalize insE r n t k 0 false = q at h1 h2 hn
    obtain ⟨t', u⟩ := q
    simp only at hn
    subst hn
    exact ⟨h1, h2.1⟩
  · exact ⟨rfl, h⟩
/-! how high a tree gets. -/
theorem putB_h (r : Int → Int) (k v : Int) (s : BT) : (putB r k v s).1 ≤ s.1 + 1 := by
  unfold putB
  split <;> simp
theorem remB_h (r : Int → Int) (k : Int) (s : BT) : (remB r k s).1 = s.1 := by
  unfold remB
  split <;> rfl
end Go.Proofs.Ytjbelfbfhcmgeaa.Bt
