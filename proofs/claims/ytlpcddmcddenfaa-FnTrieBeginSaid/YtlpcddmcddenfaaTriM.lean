/- tries in memory. -/
import Derived.Test.YtlpcddmcddenfaaNX
import Derived.Test.YtlpcddmcddenfaaTriS
import Derived.Test.YtlpcddmcddenfaaProg
import Derived.Laws.Strings
import Derived.Laws.Strings2
namespace Go.Proofs.Ytlpcddmcddenfaa.Kp
open Go.RowKit Tri

/-- a text. -/
abbrev str (x : Txt) : Value := .string ⟨x.toArray⟩
/-- a trie as it lies in memory. -/
inductive TN where
  | nil
  | node (p : Nat) (c : UInt8) (l m r : TN) (v : Int) (b : Bool)
def TN.ptr : TN → Option Addr
  | .nil => none
  | .node p .. => some ⟨p, 0, none⟩
def TN.ids : TN → List Nat
  | .nil => []
  | .node p _ l m r _ _ => p :: (l.ids ++ (m.ids ++ r.ids))
def TN.er : TN → Tr
  | .nil => .nil
  | .node _ c l m r v b => .node c l.er m.er r.er v b
def cellsT (c : UInt8) (l m r : TN) (v : Int) (b : Bool) : Array Value := #[.int .u8 c.toNat, .pointer l.ptr, .pointer m.ptr, .pointer r.ptr, .int .i64 v, .bool b]
def TN.In (w : World) : TN → Prop
  | .nil => True
  | .node p c l m r v b => Blk w p (cellsT c l m r v b) 72 ∧ l.In w ∧ m.In w ∧ r.In w
theorem mem_ids {p : Nat} {c : UInt8} {l m r : TN} {v : Int} {b : Bool} {x : Nat} : x ∈ (TN.node p c l m r v b).ids ↔ x = p ∨ x ∈ l.ids ∨ x ∈ m.ids ∨ x ∈ r.ids := by
  simp [TN.ids]
theorem TN.In.fr {w w' : World} {S : List Nat} (hf : Fr S w w') : ∀ {t : TN}, t.In w → (∀ x ∈ t.ids, x ∉ S) → t.In w'
  | .nil, _, _ => trivial
  | .node _ _ _ _ _ _ _, ⟨h1, h2, h3, h4⟩, hn => ⟨h1.fr hf (hn _ (mem_ids.2 (.inl rfl))), TN.In.fr hf h2 (fun x hx => hn x (mem_ids.2 (.inr (.inl hx)))), TN.In.fr hf h3 (fun x hx => hn x (mem_ids.2 (.inr (.inr (.inl hx))))), TN.In.fr hf h4 (fun x hx => hn x (mem_ids.2 (.inr (.inr (.inr hx)))))⟩
theorem TN.In.lt {w : World} : ∀ {t : TN}, t.In w → ∀ x ∈ t.ids, x < w.heap.size
  | .nil, _, x, hx => by cases hx
  | .node _ _ l m r _ _, ⟨h1, h2, h3, h4⟩, x, hx => by
    rcases mem_ids.1 hx with rfl | hx | hx | hx
    · exact h1.lt
    · exact TN.In.lt h2 x hx
    · exact TN.In.lt h3 x hx
    · exact TN.In.lt h4 x hx
theorem TN.In.below {w w' : World} {t : TN} (h : t.In w) (hb : Below w.heap.size w w') : t.In w' := h.fr (Fr.of_below (S := []) hb) (fun _ _ h => by cases h)
theorem TN.In.drewN {w : World} (n : Nat) {t : TN} (h : t.In w) : t.In (w.drewN n) := h.fr (Fr.drewN [] w n) (fun _ _ h => by cases h)
theorem nd3 {p : Nat} {L M R : List Nat} : (p :: (L ++ (M ++ R))).Nodup ↔ (p ∉ L ∧ p ∉ M ∧ p ∉ R) ∧ L.Nodup ∧ M.Nodup ∧ R.Nodup ∧ (∀ x ∈ L, x ∉ M) ∧ (∀ x ∈ L, x ∉ R) ∧ (∀ x ∈ M, x ∉ R) := by
  rw [List.nodup_cons, List.nodup_append, List.nodup_append]
  simp only [List.mem_append, not_or]
  constructor
  · rintro ⟨⟨h1, h2, h3⟩, h4, ⟨h5, h6, h7⟩, h8⟩
    exact ⟨⟨h1, h2, h3⟩, h4, h5, h6, fun x hx hm => h8 x hx x (.inl hm) rfl, fun x hx hm => h8 x hx x (.inr hm) rfl, fun x hx hm => h7 x hx x hm rfl⟩
  · rintro ⟨⟨h1, h2, h3⟩, h4, h5, h6, h7, h8, h9⟩
    exact ⟨⟨h1, h2, h3⟩, h4, ⟨h5, h6, fun x hx y hy e => by subst e; exact h9 x hx hy⟩, fun x hx y hy e => by subst e; exact hy.elim (h7 x hx) (h8 x hx)⟩
/-- a step makes of a part a tree. -/
structure TStep (w : World) (t : TN) (e : Tr) (w' : World) (t' : TN) : Prop where
  inn : t'.In w'
  er : t'.er = e
  ids : ∀ i ∈ t'.ids, i ∈ t.ids ∨ w.heap.size ≤ i
  nd : t'.ids.Nodup
  fr : Fr t.ids w w'
theorem TStep.same {w : World} {t : TN} (h : t.In w) (hn : t.ids.Nodup) : TStep w t t.er w t := ⟨h, rfl, fun _ h => .inl h, hn, Fr.refl _ _⟩
section
variable {w w1 : World} {p : Nat} {c : UInt8} {l m r l' m' r' : TN} {v : Int} {b : Bool} {e : Tr}
/-- a node's part is turned into another one, and the node told. -/
theorem TStep.left (H : (TN.node p c l m r v b).In w) (hn : (TN.node p c l m r v b).ids.Nodup) (h : TStep w l e w1 l') (q : Option Addr) (hq : q = l'.ptr) :
    TStep w (.node p c l m r v b) (.node c e m.er r.er v b) (w1.setCell ⟨p, 1, none⟩ (.pointer q)) (.node p c l' m r v b) := by
  subst hq
  obtain ⟨h1, h2, h3, h4⟩ := H
  obtain ⟨⟨d1, d2, d3⟩, nl, nm, nr, lm, lr, mr⟩ := nd3.1 hn
  have hp : p ∉ l'.ids := fun hx => (h.ids p hx).elim d1 (fun e => by have := h1.lt; omega)
  have f1 : Fr [p] w1 (w1.setCell ⟨p, 1, none⟩ (.pointer l'.ptr)) := Fr.setCell w1 p 1 _ (by simp)
  have ne : ∀ {t : TN}, p ∉ t.ids → ∀ x ∈ t.ids, x ∉ [p] := fun ht x hx hm => by rw [List.mem_singleton] at hm; subst hm; exact ht hx
  refine ⟨⟨?_, h.inn.fr f1 (ne hp), (h3.fr h.fr fun x hx hl => lm x hl hx).fr f1 (ne d2), (h4.fr h.fr fun x hx hl => lr x hl hx).fr f1 (ne d3)⟩, by simp only [TN.er, h.er], fun i hi => ?_, nd3.2 ⟨⟨hp, d2, d3⟩, h.nd, nm, nr, fun x hx hm => (h.ids x hx).elim (fun hl => lm x hl hm) (fun e => by have := h3.lt x hm; omega), fun x hx hm => (h.ids x hx).elim (fun hl => lr x hl hm) (fun e => by have := h4.lt x hm; omega), mr⟩, ?_⟩
  · exact (h1.fr h.fr d1).set 1 _
  · rcases mem_ids.1 hi with rfl | hi | hi
    · exact .inl (mem_ids.2 (.inl rfl))
    · exact (h.ids i hi).imp (fun h => mem_ids.2 (.inr (.inl h))) id
    · exact .inl (mem_ids.2 (.inr (.inr hi)))
  · exact h.fr.trans f1 (fun x hx => .inl (mem_ids.2 (.inr (.inl hx)))) (fun x hx => by rw [List.mem_singleton] at hx; exact .inl (mem_ids.2 (.inl hx)))
theorem TStep.midd (H : (TN.node p c l m r v b).In w) (hn : (TN.node p c l m r v b).ids.Nodup) (h : TStep w m e w1 m') (q : Option Addr) (hq : q = m'.ptr) :
    TStep w (.node p c l m r v b) (.node c l.er e r.er v b) (w1.setCell ⟨p, 2, none⟩ (.pointer q)) (.node p c l m' r v b) := by
  subst hq
  obtain ⟨h1, h2, h3, h4⟩ := H
  obtain ⟨⟨d1, d2, d3⟩, nl, nm, nr, lm, lr, mr⟩ := nd3.1 hn
  have hp : p ∉ m'.ids := fun hx => (h.ids p hx).elim d2 (fun e => by have := h1.lt; omega)
  have f1 : Fr [p] w1 (w1.setCell ⟨p, 2, none⟩ (.pointer m'.ptr)) := Fr.setCell w1 p 2 _ (by simp)
  have ne : ∀ {t : TN}, p ∉ t.ids → ∀ x ∈ t.ids, x ∉ [p] := fun ht x hx hm => by rw [List.mem_singleton] at hm; subst hm; exact ht hx
  refine ⟨⟨?_, (h2.fr h.fr fun x hx hl => lm x hx hl).fr f1 (ne d1), h.inn.fr f1 (ne hp), (h4.fr h.fr fun x hx hl => mr x hl hx).fr f1 (ne d3)⟩, by simp only [TN.er, h.er], fun i hi => ?_, nd3.2 ⟨⟨d1, hp, d3⟩, nl, h.nd, nr, fun x hx hm => (h.ids x hm).elim (fun hl => lm x hx hl) (fun e => by have := h2.lt x hx; omega), lr, fun x hx hm => (h.ids x hx).elim (fun hl => mr x hl hm) (fun e => by have := h4.lt x hm; omega)⟩, ?_⟩
  · exact (h1.fr h.fr d2).set 2 _
  · rcases mem_ids.1 hi with rfl | hi | hi | hi
    · exact .inl (mem_ids.2 (.inl rfl))
    · exact .inl (mem_ids.2 (.inr (.inl hi)))
    · exact (h.ids i hi).imp (fun h => mem_ids.2 (.inr (.inr (.inl h)))) id
    · exact .inl (mem_ids.2 (.inr (.inr (.inr hi))))
  · exact h.fr.trans f1 (fun x hx => .inl (mem_ids.2 (.inr (.inr (.inl hx))))) (fun x hx => by rw [List.mem_singleton] at hx; exact .inl (mem_ids.2 (.inl hx)))
theorem TStep.right (H : (TN.node p c l m r v b).In w) (hn : (TN.node p c l m r v b).ids.Nodup) (h : TStep w r e w1 r') (q : Option Addr) (hq : q = r'.ptr) :
    TStep w (.node p c l m r v b) (.node c l.er m.er e v b) (w1.setCell ⟨p, 3, none⟩ (.pointer q)) (.node p c l m r' v b) := by
  subst hq
  obtain ⟨h1, h2, h3, h4⟩ := H
  obtain ⟨⟨d1, d2, d3⟩, nl, nm, nr, lm, lr, mr⟩ := nd3.1 hn
  have hp : p ∉ r'.ids := fun hx => (h.ids p hx).elim d3 (fun e => by have := h1.lt; omega)
  have f1 : Fr [p] w1 (w1.setCell ⟨p, 3, none⟩ (.pointer r'.ptr)) := Fr.setCell w1 p 3 _ (by simp)
  have ne : ∀ {t : TN}, p ∉ t.ids → ∀ x ∈ t.ids, x ∉ [p] := fun ht x hx hm => by rw [List.mem_singleton] at hm; subst hm; exact ht hx
  refine ⟨⟨?_, (h2.fr h.fr fun x hx hl => lr x hx hl).fr f1 (ne d1), (h3.fr h.fr fun x hx hl => mr x hx hl).fr f1 (ne d2), h.inn.fr f1 (ne hp)⟩, by simp only [TN.er, h.er], fun i hi => ?_, nd3.2 ⟨⟨d1, d2, hp⟩, nl, nm, h.nd, lm, fun x hx hm => (h.ids x hm).elim (fun hl => lr x hx hl) (fun e => by have := h2.lt x hx; omega), fun x hx hm => (h.ids x hm).elim (fun hl => mr x hx hl) (fun e => by have := h3.lt x hx; omega)⟩, ?_⟩
  · exact (h1.fr h.fr d3).set 3 _
  · rcases mem_ids.1 hi with rfl | hi | hi | hi
    · exact .inl (mem_ids.2 (.inl rfl))
    · exact .inl (mem_ids.2 (.inr (.inl hi)))
    · exact .inl (mem_ids.2 (.inr (.inr (.inl hi))))
    · exact (h.ids i hi).imp (fun h => mem_ids.2 (.inr (.inr (.inr h)))) id
  · exact h.fr.trans f1 (fun x hx => .inl (mem_ids.2 (.inr (.inr (.inr hx))))) (fun x hx => by rw [List.mem_singleton] at hx; exact .inl (mem_ids.2 (.inl hx)))
/-- a node's value is told. -/
theorem TStep.setv (H : (TN.node p c l m r v b).In w) (hn : (TN.node p c l m r v b).ids.Nodup) (v' : Int) (b' : Bool) :
    TStep w (.node p c l m r v b) (.node c l.er m.er r.er v' b') ((w.setCell ⟨p, 4, none⟩ (.int .i64 v')).setCell ⟨p, 5, none⟩ (.bool b')) (.node p c l m r v' b') := by
  obtain ⟨h1, h2, h3, h4⟩ := H
  obtain ⟨⟨d1, d2, d3⟩, nl, nm, nr, lm, lr, mr⟩ := nd3.1 hn
  have f1 : Fr [p] w ((w.setCell ⟨p, 4, none⟩ (.int .i64 v')).setCell ⟨p, 5, none⟩ (.bool b')) := (Fr.setCell w p 4 _ (by simp)).comp (Fr.setCell _ p 5 _ (by simp))
  have ne : ∀ {t : TN}, p ∉ t.ids → ∀ x ∈ t.ids, x ∉ [p] := fun ht x hx hm => by rw [List.mem_singleton] at hm; subst hm; exact ht hx
  exact ⟨⟨(h1.set 4 _).set 5 _, h2.fr f1 (ne d1), h3.fr f1 (ne d2), h4.fr f1 (ne d3)⟩, rfl, fun i hi => .inl hi, hn, f1.mono fun x hx => by rw [List.mem_singleton] at hx; exact .inl (mem_ids.2 (.inl hx))⟩
end
/-- the node at a text's end. -/
def TN.get : TN → Txt → TN
  | .nil, _ => .nil
  | .node _ _ _ _ _ _ _, [] => .nil
  | .node p c l m r v b, a :: k => if a.toNat < c.toNat then l.get (a :: k) else if c.toNat < a.toNat then r.get (a :: k) else if k = [] then .node p c l m r v b else m.get k
theorem TN.get_er : ∀ (t : TN) (k : Txt), (t.get k).er = t.er.get k
  | .nil, _ => rfl
  | .node .., [] => rfl
  | .node p c l m r v b, a :: k => by
    simp only [TN.get, TN.er, Tr.get]
    split
    · exact TN.get_er l _
    · split
      · exact TN.get_er r _
      · split
        · rfl
        · exact TN.get_er m _
theorem TN.get_in {w : World} : ∀ {t : TN} (k : Txt), t.In w → (t.get k).In w
  | .nil, _, h => h
  | .node .., [], _ => trivial
  | .node p c l m r v b, a :: k, h => by
    simp only [TN.get]
    split
    · exact TN.get_in _ h.2.1
    · split
      · exact TN.get_in _ h.2.2.2
      · split
        · exact h
        · exact TN.get_in _ h.2.2.1
theorem drop_at {K : Txt} {d : Nat} (h : d < K.length) : K.drop d = K[d] :: K.drop (d + 1) := List.drop_eq_getElem_cons h
theorem str_len (x : Txt) : (ByteArray.mk x.toArray).size = x.length := by simp [ByteArray.size]
theorem str_at (x : Txt) (i : Nat) (h : i < x.length) : ((ByteArray.mk x.toArray)[i]'(by rw [str_len]; exact h)) = x[i] := by
  show x.toArray[i] = x[i]
  simp
end Go.Proofs.Ytlpcddmcddenfaa.Kp
