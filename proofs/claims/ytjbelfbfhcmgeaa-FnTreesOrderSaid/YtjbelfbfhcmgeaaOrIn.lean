/- append([]int{}, x...) and append(.., y) as steps of a region that draws. -/
import Derived.Test.YtjbelfbfhcmgeaaNRow
import Derived.Test.YtjbelfbfhcmgeaaActs
import Derived.Deep.AppendLies
namespace Go.Proofs.Ytjbelfbfhcmgeaa.Kp
open Go.RowKit

/-- a slice of ints, nil or of some block of ints. -/
def IntS (w : World) (v : Value) (xs : List Int) : Prop := (v = .slice none 0 0 ∧ xs = []) ∨ ∃ b off cap cur, v = .slice (some ⟨b, off, none⟩) xs.length cap ∧ xs.length ≤ cap ∧ w.heap[b]? = some (Obj.cells cur 3 (0, 0)) ∧ ∀ i, i < xs.length → cur[off + i]? = some (.int .i64 (xs.getD i 0))
theorem IntS.nil (w : World) : IntS w (.slice none 0 0) [] := .inl ⟨rfl, rfl⟩
theorem IntS.keep {w w' : World} {v : Value} {xs : List Int} (h : IntS w v xs) (k : KeepsInts w w') : IntS w' v xs := by
  rcases h with h | ⟨b, off, cap, cur, e, h1, h2, h3⟩
  · exact .inl h
  · exact .inr ⟨b, off, cap, cur, e, h1, k _ _ h2, h3⟩
theorem IntS.form {w : World} {v : Value} {xs : List Int} (h : IntS w v xs) : ∃ A c, v = .slice A xs.length c := by
  rcases h with ⟨rfl, rfl⟩ | ⟨b, off, cap, cur, rfl, _⟩
  · exact ⟨_, _, rfl⟩
  · exact ⟨_, _, rfl⟩
theorem getD_get' {xs : List Int} {i : Nat} (h : i < xs.length) : xs[i]? = some (xs.getD i 0) := by rw [List.getD_eq_getElem?_getD, List.getElem?_eq_getElem h]; rfl
theorem NS.toIntS {w : World} {v : Value} {xs : List Int} (h : NS w v xs) : IntS w v xs := by
  rcases h.is with h | ⟨b, off, c, cur, e, h1, h2, h3, h4⟩
  · exact .inl h
  · exact .inr ⟨b, off, c, cur, e, h1, h3, fun i hi => h4 i _ (getD_get' hi)⟩
theorem own_IntS {w : World} {B n : Nat} {v : Value} {xs : List Int} (hn : xs.length = n) (h : w.ownsRow B 3 1 v n (xs.map i64v)) : IntS w v xs := (own_NS hn h).toIntS
theorem KeepsInts.alloc' (w : World) (o : Obj) : KeepsInts w (w.alloc o) := KeepsInts.below ((Below.refl _ w).alloc (Nat.le_refl _) o)
theorem IntS.news {w : World} {b off n cap : Nat} {xs : List Int} (h : IntS w (.slice (some ⟨b, off, none⟩) n cap) xs) : ∀ j u, (xs.map i64v)[j]? = some u → w.cell? ((⟨b, off, none⟩ : Addr).add j) = some u := by
  rcases h with ⟨e, _⟩ | ⟨b', off', cap', cur, e, h1, h2, h3⟩
  · cases e
  · cases e
    intro j u hj
    rw [List.getElem?_map, Option.map_eq_some_iff] at hj
    obtain ⟨a, ha, rfl⟩ := hj
    have hl := (List.getElem?_eq_some_iff.1 ha).1
    rw [getD_get' hl] at ha
    cases ha
    have : (⟨b, off, none⟩ : Addr).add j = ⟨b, off + j, none⟩ := by unfold Addr.add; split <;> simp_all
    rw [this, (show Blk w b cur _ from h2).cell, h3 j hl]
theorem run_append_into {P : Program} (w : World) (t ty : TypeId) (base : Nat) (e : TypeId) (i : TypeInfo) (z : Value) (bytes : Nat) (ht : P.underlying t = some (.slice e)) (hi : P.info? e = some i) (hz : i.zero = some z)
    (hsize : i.size = 1) (hby : i.bytes = bytes) (hzs : z.cells.size = 1) (g0 c0 n : Nat) (xs : List Value) (hown : w.ownsRow base e 1 (.slice (some ⟨g0, 0, none⟩) n c0) n xs)
    (ar : Value) (l : List Int) (har : IntS w ar l) (h63 : n + l.length ≤ maxLen) (hbytes : (n + l.length) * bytes ≤ 140737488355328) (hbase : base ≤ w.heap.size) (H : Nat) (hH : w.heap.size = H) :
    ∃ g cap w', (Builtin.append_ #[t, t] ty #[.slice (some ⟨g0, 0, none⟩) n c0, ar]).run P w = .ok (.slice (some ⟨g, 0, none⟩) (n + l.length) cap) w' ∧
      w'.ownsRow base e 1 (.slice (some ⟨g, 0, none⟩) (n + l.length) cap) (n + l.length) (xs ++ l.map i64v) ∧ w.grownBy w' (some g0) ∧ (g0 = g ∨ g = H) ∧ g < w'.heap.size := by
  have hg0 : g0 < w.heap.size := (hown.lt g0 rfl).2
  have nilc : ∀ (v : Value), l = [] → v = .slice none 0 0 → ∃ g cap w', (Builtin.append_ #[t, t] ty #[.slice (some ⟨g0, 0, none⟩) n c0, v]).run P w = .ok (.slice (some ⟨g, 0, none⟩) (n + l.length) cap) w' ∧
      w'.ownsRow base e 1 (.slice (some ⟨g, 0, none⟩) (n + l.length) cap) (n + l.length) (xs ++ l.map i64v) ∧ w.grownBy w' (some g0) ∧ (g0 = g ∨ g = H) ∧ g < w'.heap.size := by
    rintro v rfl rfl
    refine ⟨g0, c0, w, ?_, by simpa using hown, ⟨rfl, rfl, rfl, Nat.le_refl _, fun _ _ _ => rfl⟩, .inl rfl, hg0⟩
    exact run_append_owned_none (P := P) (w := w) base t ty e i 1 ht hi _ n xs hown
  rcases har with ⟨rfl, hl⟩ | ⟨b, off, cap, cur, rfl, k1, k2, k3⟩
  · exact nilc _ hl rfl
  · have hn := IntS.news (.inr ⟨b, off, cap, cur, rfl, k1, k2, k3⟩ : IntS w (.slice (some ⟨b, off, none⟩) l.length cap) l)
    obtain ⟨v', w', hr, h2, h3, h4, h5⟩ := run_append_own_at (P := P) w base t ty e i z 1 bytes ht hi hz hsize hby hzs (by omega) _ n xs hown ⟨b, off, none⟩ l.length cap (l.map i64v) (by simp) hn (fun u hu => by obtain ⟨a, _, rfl⟩ := List.mem_map.1 hu; rfl) h63 hbytes hbase
    rcases h2.2 with ⟨e1, _⟩ | ⟨g, cap', cur', e1, g1, g2, _⟩
    · have := (h4.1 e1).1; cases this
    · subst e1
      refine ⟨g, cap', w', hr, h2, h3, ?_, (Array.getElem?_eq_some_iff.1 g2).1⟩
      rcases h5 with h5 | h5
      · left; simpa [Value.ownBlock] using h5.symm
      · right
        have : g = w.heap.size := by simpa [Value.ownBlock] using h5
        rw [this, hH]
theorem step_append_into {P : Program} {w : World} {ops : Array Oper} {o : Oper} {a : Act} {K : Act → World → Prop} {Q : Exit → Act → World → Prop} {E : Prop} (hgd : o.guard = none) (s x : Operand) (t : TypeId)
    (ho : o.op = .call { callee := .builtin .append, args := #[s, x], argTypes := #[t, t] })
    (base : Nat) (e : TypeId) (i : TypeInfo) (z : Value) (bytes : Nat) (ht : P.underlying t = some (.slice e)) (hi : P.info? e = some i) (hz : i.zero = some z)
    (hsize : i.size = 1) (hby : i.bytes = bytes) (hzs : z.cells.size = 1) (g0 c0 n : Nat) (xs : List Value) (hs : a.eval s = .slice (some ⟨g0, 0, none⟩) n c0) (hown : w.ownsRow base e 1 (.slice (some ⟨g0, 0, none⟩) n c0) n xs)
    (ar : Value) (l : List Int) (hx : a.eval x = ar) (har : IntS w ar l) (h63 : n + l.length ≤ maxLen) (hbytes : (n + l.length) * bytes ≤ 140737488355328) (hbase : base ≤ w.heap.size) (H : Nat) (hH : w.heap.size = H)
    (h : ∀ g cap w', w'.ownsRow base e 1 (.slice (some ⟨g, 0, none⟩) (n + l.length) cap) (n + l.length) (xs ++ l.map i64v) → w.grownBy w' (some g0) → (g0 = g ∨ g = H) → g < w'.heap.size → K (a.put o.dst (.slice (some ⟨g, 0, none⟩) (n + l.length) cap)) w') :
    if Region.wanted o (yielded ops a.tmps) = true then Oper.wp P o a w K Q else E := by
  have hw : Region.wanted o (yielded ops a.tmps) = true := by simp [Region.wanted, hgd]
  rw [if_pos hw]
  obtain ⟨g, cap, w', hr, h2, h3, h4, h5⟩ := run_append_into (P := P) w t o.type base e i z bytes ht hi hz hsize hby hzs g0 c0 n xs hown ar l har h63 hbytes hbase H hH
  unfold Oper.wp execOp
  simp only [ho, resolve, invoke, builtin, Sem.run_bind, Sem.run_pure, Result.andThen_ok, List.map_toArray, List.map_cons, List.map_nil, hs, hx, hr]
  exact h g cap w' h2 h3 h4 h5
theorem own_mt' (w : World) (B : Nat) (hB : B ≤ w.heap.size) (T : TypeId) (s : Nat) : (w.alloc (.cells #[] T)).ownsRow B T s (.slice (some ⟨w.heap.size, 0, none⟩) 0 0) 0 [] :=
  ⟨by simp, .inr ⟨w.heap.size, 0, #[], rfl, hB, Blk.new w #[] T, Nat.le_refl _, by unfold maxLen; omega, by simp, by simp⟩⟩
/-- ahead of append([]int{}, x...): W1 the world ahead of the region, g0 the empty row. -/
structure Cp1 (W1 : World) (bv : Value) (xs : List Int) (g0 : Nat) (W : World) : Prop where
  own : W.ownsRow W1.heap.size 3 1 (.slice (some ⟨g0, 0, none⟩) 0 0) 0 []
  b : IntS W bv xs
  bel : Below W1.heap.size W1 W
theorem Cp1.first {W1 : World} {bv : Value} {xs : List Int} (h : IntS W1 bv xs) : Cp1 W1 bv xs W1.heap.size (W1.alloc (Obj.cells #[] 3)) :=
  ⟨own_mt' W1 _ (Nat.le_refl _) _ _, h.keep (KeepsInts.alloc' _ _), (Below.refl _ _).alloc (Nat.le_refl _) _⟩
theorem Cp1.second {W1 : World} {bv : Value} {xs : List Int} (h : IntS W1 bv xs) (o : Obj) : Cp1 W1 bv xs (W1.heap.size + 1) ((W1.alloc o).alloc (Obj.cells #[] 3)) := by
  have := own_mt' (W1.alloc o) W1.heap.size (by simp) 3 1
  rw [show (W1.alloc o).heap.size = W1.heap.size + 1 by simp] at this
  exact ⟨this, (h.keep (KeepsInts.alloc' _ _)).keep (KeepsInts.alloc' _ _), ((Below.refl _ _).alloc (Nat.le_refl _) _).alloc (by simp) _⟩
theorem Cp1.alloc {W1 W : World} {bv : Value} {xs : List Int} {g0 : Nat} (h : Cp1 W1 bv xs g0 W) (o : Obj) : Cp1 W1 bv xs g0 (W.alloc o) := ⟨h.own.alloc _, h.b.keep (KeepsInts.alloc' _ _), h.bel.alloc h.bel.size _⟩
theorem Cp1.drew {W1 W : World} {bv : Value} {xs : List Int} {g0 : Nat} (h : Cp1 W1 bv xs g0 W) : Cp1 W1 bv xs g0 W.drew := ⟨h.own.drew, h.b, h.bel.drew⟩
/-- behind it. -/
structure Cp2 (W1 : World) (xs : List Int) (g cap : Nat) (W : World) : Prop where
  own : W.ownsRow W1.heap.size 3 1 (.slice (some ⟨g, 0, none⟩) xs.length cap) xs.length (xs.map i64v)
  bel : Below W1.heap.size W1 W
  le : W1.heap.size ≤ W.heap.size
theorem Cp2.alloc {W1 W : World} {xs : List Int} {g cap : Nat} (h : Cp2 W1 xs g cap W) (o : Obj) : Cp2 W1 xs g cap (W.alloc o) := ⟨h.own.alloc _, h.bel.alloc h.bel.size _, by have := h.le; simp; omega⟩
theorem Cp1.next {W1 W w1 : World} {bv : Value} {xs : List Int} {g0 g cap : Nat} (h : Cp1 W1 bv xs g0 W) (ho : w1.ownsRow W1.heap.size 3 1 (.slice (some ⟨g, 0, none⟩) (0 + xs.length) cap) (0 + xs.length) ([] ++ xs.map i64v)) (hg : W.grownBy w1 (some g0)) :
    Cp2 W1 xs g cap w1 ∧ ∀ b x, b ≠ g0 → W.cell? ⟨b, 0, none⟩ = some x → w1.cell? ⟨b, 0, none⟩ = some x := by
  rw [Nat.zero_add, List.nil_append] at ho
  have hb := h.bel.grown hg h.bel.size (fun k hk => by cases hk; exact (h.own.lt _ rfl).1)
  exact ⟨⟨ho, hb, hb.size⟩, fun b x hne hx => hg.cell hx (fun e => hne (by cases e; rfl))⟩
structure Cp3 (W1 : World) (xs : List Int) (y : Int) (g cap : Nat) (W : World) : Prop where
  b : IntS W (.slice (some ⟨g, 0, none⟩) (xs.length + 1) cap) (xs ++ [y])
  bel : Below W1.heap.size W1 W
theorem Cp2.next {W1 W w1 : World} {xs : List Int} {y : Int} {g cap g2 cap2 : Nat} (h : Cp2 W1 xs g cap W) (ho : w1.ownsRow W1.heap.size 3 1 (.slice (some ⟨g2, 0, none⟩) (xs.length + 1) cap2) (xs.length + 1) (xs.map i64v ++ [.int .i64 y])) (hg : W.grownBy w1 (Value.slice (some ⟨g, 0, none⟩) xs.length cap).ownBlock) : Cp3 W1 xs y g2 cap2 w1 :=
  ⟨own_IntS (n := xs.length + 1) (by simp) (by rw [List.map_append]; exact ho), h.bel.grown hg h.bel.size (fun k hk => (h.own.lt _ hk).1)⟩
end Go.Proofs.Ytjbelfbfhcmgeaa.Kp
