/- B-trees as data: where parts stand in a list of nodes; no program in sight. -/
import Derived.Test.YtjbelfbfhcmgeaaBsP
import Derived.Test.YtjbelfbfhcmgeaaKidsA
namespace Go.Proofs.Ytjbelfbfhcmgeaa.Kp
open Om Bt

def flagK (d : KnD) : List Bool := if d.leaf then [] else List.replicate d.keys.length true
def hasK (l : List KnD) : List (List Bool) := l.map flagK
theorem hasK_len (l : List KnD) : (hasK l).length = l.length := by simp [hasK]
/-- a tree stands at a place of a list of nodes. -/
def StE (ns : List KnD) (p h : Nat) (t : BE h) : Prop := ∃ a b, ns = a ++ shapeE h t ++ b ∧ a.length = p
/-- where a part of a node stands. -/
def posK {h : Nat} (ks : List (Int × BE h)) (p k : Nat) : Nat := p + 1 + ((ks.take k).flatMap fun e => shapeE h e.2).length
theorem posK_zero {h : Nat} (ks : List (Int × BE h)) (p : Nat) : posK ks p 0 = p + 1 := by simp [posK]
theorem posK_succ {h : Nat} {ks : List (Int × BE h)} {p k : Nat} {e : Int × BE h} (he : ks[k]? = some e) : posK ks p (k + 1) = posK ks p k + (shapeE h e.2).length := by
  unfold posK; rw [List.take_add_one, he]; simp; omega
theorem shape_succ (h : Nat) (ks : List (Int × BE h)) : shapeE (h + 1) ks = ⟨false, ks.map Prod.fst, [], []⟩ :: ks.flatMap fun e => shapeE h e.2 := rfl
theorem shape_zero (es : List LE) : shapeE 0 es = [leafD es] := rfl
theorem StE.all (h : Nat) (t : BE h) : StE (shapeE h t) 0 h t := ⟨[], [], by simp, rfl⟩
theorem StE.le {ns : List KnD} {p h : Nat} {t : BE h} (H : StE ns p h t) : p + (shapeE h t).length ≤ ns.length := by
  obtain ⟨a, b, e, rfl⟩ := H
  rw [e]; simp
theorem shape_pos : ∀ (h : Nat) (t : BE h), 0 < (shapeE h t).length
  | 0, es => Nat.zero_lt_one
  | h + 1, ks => Nat.zero_lt_succ _
theorem StE.lt {ns : List KnD} {p h : Nat} {t : BE h} (H : StE ns p h t) : p < ns.length := by
  have := H.le; have := shape_pos h t; omega
theorem StE.leaf {ns : List KnD} {p : Nat} {es : List LE} (H : StE ns p 0 es) : ns[p]? = some (leafD es) := by
  obtain ⟨a, b, e, rfl⟩ := H
  rw [e, shape_zero]; simp
theorem StE.node {ns : List KnD} {p h : Nat} {ks : List (Int × BE h)} (H : StE ns p (h + 1) ks) : ns[p]? = some ⟨false, ks.map Prod.fst, [], []⟩ := by
  obtain ⟨a, b, e, rfl⟩ := H
  rw [e, shape_succ]; simp
theorem StE.part {ns : List KnD} {p h k : Nat} {ks : List (Int × BE h)} {e : Int × BE h} (H : StE ns p (h + 1) ks) (hk : ks[k]? = some e) : StE ns (posK ks p k) h e.2 := by
  obtain ⟨a, b, e1, rfl⟩ := H
  have hlt := (List.getElem?_eq_some_iff.1 hk).1
  have hs : ks = ks.take k ++ e :: ks.drop (k + 1) := by
    conv => lhs; rw [← List.take_append_drop k ks, List.drop_eq_getElem_cons hlt]
    rw [(List.getElem?_eq_some_iff.1 hk).2]
  refine ⟨a ++ ⟨false, ks.map Prod.fst, [], []⟩ :: (ks.take k).flatMap (fun e => shapeE h e.2), (ks.drop (k + 1)).flatMap (fun e => shapeE h e.2) ++ b, ?_, by simp [posK]; omega⟩
  rw [e1, shape_succ]
  have : (ks.flatMap fun e => shapeE h e.2) = (ks.take k).flatMap (fun e => shapeE h e.2) ++ (shapeE h e.2 ++ (ks.drop (k + 1)).flatMap (fun e => shapeE h e.2)) := by
    conv => lhs; rw [hs]
    rw [List.flatMap_append, List.flatMap_cons]
  rw [this]; simp
theorem flag_row {ns : List KnD} {p : Nat} {d : KnD} (h : ns[p]? = some d) : (hasK ns).getD p [] = flagK d := by
  unfold hasK
  rw [List.getD_eq_getElem?_getD, List.getElem?_map, h]; rfl
theorem endsL_one (has : List (List Bool)) (m : Nat) : endsL has [true] m = ends has m := by
  show (ends has m).bind _ = _
  cases ends has m <;> rfl
theorem parts_key {ns : List KnD} {p h : Nat} {ks : List (Int × BE h)} (H : StE ns p (h + 1) ks) (ih : ∀ (t : BE h) (q : Nat), StE ns q h t → ends (hasK ns) q = some (q + (shapeE h t).length)) :
    ∀ k, k ≤ ks.length → endsL (hasK ns) (List.replicate k true) (p + 1) = some (posK ks p k) ∧ kidsL (hasK ns) (List.replicate k true) (p + 1) = (List.range k).map fun k => (posK ks p k : Int) := by
  intro k
  induction k with
  | zero => intro _; exact ⟨by rw [posK_zero]; rfl, rfl⟩
  | succ k ihk =>
    intro hk
    obtain ⟨h1, h2⟩ := ihk (by omega)
    have he : ks[k]? = some (ks[k]'(by omega)) := List.getElem?_eq_getElem _
    generalize ks[k]'(by omega) = e at he
    rw [List.replicate_succ', endsL_split, h1]
    refine ⟨?_, ?_⟩
    · show endsL (hasK ns) [true] (posK ks p k) = _
      rw [endsL_one, ih e.2 _ (H.part he), posK_succ he]
    · rw [kidsL_snoc _ _ _ _ _ h1, h2, List.range_succ, List.map_append]; rfl
theorem StE.ends {ns : List KnD} : ∀ {h : Nat} (t : BE h) (p : Nat), StE ns p h t → Kp.ends (hasK ns) p = some (p + (shapeE h t).length)
  | 0, es, p, H => by
    have := H.lt
    rw [ends_lt (by rw [hasK_len]; exact this), flag_row H.leaf]
    rfl
  | h + 1, ks, p, H => by
    obtain ⟨k0, hk0⟩ : ∃ k : List (Int × BE h), k = ks := ⟨ks, rfl⟩
    subst hk0
    have := H.lt
    rw [ends_lt (by rw [hasK_len]; exact this), flag_row H.node]
    have hf : flagK ⟨false, List.map Prod.fst k0, [], []⟩ = List.replicate k0.length true := by simp [flagK]
    rw [hf, (parts_key (ks := k0) H (fun t q => StE.ends t q) _ (Nat.le_refl _)).1]
    unfold posK
    rw [List.take_length, shape_succ]; simp; omega
theorem StE.kids {ns : List KnD} {p h : Nat} {ks : List (Int × BE h)} (H : StE ns p (h + 1) ks) : kidsAt (hasK ns) p = (List.range ks.length).map fun k => (posK ks p k : Int) := by
  unfold kidsAt
  rw [flag_row H.node]
  have hf : flagK ⟨false, List.map Prod.fst ks, [], []⟩ = List.replicate ks.length true := by simp [flagK]
  rw [hf]
  exact (parts_key H (fun t q => StE.ends t q) _ (Nat.le_refl _)).2
/-- which part a place is in. -/
theorem pos_find {h : Nat} : ∀ (L : List (Int × BE h)) (q i : Nat), q ≤ i → i < q + (L.flatMap fun e => shapeE h e.2).length → ∃ k e, L[k]? = some e ∧ q + ((L.take k).flatMap fun e => shapeE h e.2).length ≤ i ∧ i < q + ((L.take k).flatMap fun e => shapeE h e.2).length + (shapeE h e.2).length
  | [], q, i, h1, h2 => by simp at h2; omega
  | e :: L, q, i, h1, h2 => by
    by_cases hi : i < q + (shapeE h e.2).length
    · exact ⟨0, e, rfl, by simpa using h1, by simpa using hi⟩
    · rw [List.flatMap_cons, List.length_append] at h2
      obtain ⟨k, e', a1, a2, a3⟩ := pos_find L (q + (shapeE h e.2).length) i (by omega) (by omega)
      refine ⟨k + 1, e', by simpa using a1, ?_, ?_⟩
      · rw [List.take_succ_cons, List.flatMap_cons, List.length_append]; omega
      · rw [List.take_succ_cons, List.flatMap_cons, List.length_append]; omega
theorem flat_part {h k : Nat} {ks : List (Int × BE h)} {e : Int × BE h} (he : ks[k]? = some e) : (Bt.flat h e.2).length ≤ (Bt.flat (h + 1) ks).length := by
  have hm := List.mem_of_getElem? he
  obtain ⟨a, b, rfl⟩ := List.append_of_mem hm
  show _ ≤ (flatN (Bt.flat h) (a ++ e :: b)).length
  unfold flatN
  rw [List.flatMap_append, List.flatMap_cons, List.length_append, List.length_append]
  omega
/-- at each place a tree stands. -/
theorem StE.sub {r : Int → Int} {ns : List KnD} : ∀ (h : Nat) (t : BE h) (p : Nat), Bt.Wf r h t → StE ns p h t → ∀ i, p ≤ i → i < p + (shapeE h t).length → ∃ (h' : Nat) (t' : BE h'), h' ≤ h ∧ StE ns i h' t' ∧ Bt.Wf r h' t' ∧ (Bt.flat h' t').length ≤ (Bt.flat h t).length
  | 0, es, p, hw, H, i, h1, h2 => by
    have h3 : i < p + 1 := h2
    have : i = p := by omega
    subst this
    exact ⟨0, es, Nat.le_refl _, H, hw, Nat.le_refl _⟩
  | h + 1, ks, p, hw, H, i, h1, h2 => by
    obtain ⟨k0, hk0⟩ : ∃ k : List (Int × BE h), k = ks := ⟨ks, rfl⟩
    subst hk0
    by_cases hi : i = p
    · subst hi; exact ⟨h + 1, k0, Nat.le_refl _, H, hw, Nat.le_refl _⟩
    · rw [shape_succ, List.length_cons] at h2
      obtain ⟨k, e, a1, a2, a3⟩ := pos_find k0 (p + 1) i (by omega) (by omega)
      have hw' : WfN r (Bt.Wf r h) (Bt.flat h) k0 := hw
      have hp := StE.part (ks := k0) H a1
      have hfl : (Bt.flat h e.2).length ≤ (Bt.flat (h + 1) k0).length := flat_part a1
      obtain ⟨h', t', b1, b2, b3, b4⟩ := StE.sub h e.2 (posK k0 p k) (hw'.2.2.1 e (List.mem_of_getElem? a1)).1 hp i (by unfold posK; exact a2) (by unfold posK; exact a3)
      exact ⟨h', t', by omega, b2, b3, by omega⟩
/-- the keys below a part lie between the node's keys. -/
theorem parted {r : Int → Int} {h : Nat} {ks : List (Int × BE h)} (hw : Bt.Wf r (h + 1) ks) {k : Nat} {e : Int × BE h} (he : ks[k]? = some e) {x : LE} (hx : x ∈ Bt.flat h e.2) :
    (0 < k → ¬ r x.1 < r e.1) ∧ (∀ y : Int × BE h, ks[k + 1]? = some y → ¬ r y.1 ≤ r x.1) := by
  have hw' : WfN r (Bt.Wf r h) (Bt.flat h) ks := hw
  have hp := List.pairwise_iff_getElem.1 hw'.2.2.2
  obtain ⟨hk, rfl⟩ := List.getElem?_eq_some_iff.1 he
  refine ⟨fun h0 => ?_, fun y hy => ?_⟩
  · have := (hp (k - 1) k (by omega) hk (by omega)).2 x hx
    omega
  · obtain ⟨hk', rfl⟩ := List.getElem?_eq_some_iff.1 hy
    have := (hp k (k + 1) hk hk' (by omega)).1 x hx
    omega
theorem run_len {r : Int → Int} : ∀ (l : List ActD) {s : Bt.BT} {m : R}, BM r s m → (runB r s l).1.flat.length ≤ s.flat.length + l.length ∧ (runB r s l).1.1 ≤ s.1 + l.length
  | [], _, _, _ => ⟨Nat.le_refl _, Nat.le_refl _⟩
  | a :: l, s, m, hb => by
    obtain ⟨h1, h2⟩ := ups_flat_len (r := r) (s := s) a hb.wf
    obtain ⟨h3, h4⟩ := run_len l (hb.step a)
    show (runB r (stepB r a s).1 l).1.flat.length ≤ _ ∧ (runB r (stepB r a s).1 l).1.1 ≤ _
    rw [List.length_cons]
    omega
/-- what is there, and which one it is. -/
theorem live_cons (e : LE) (F : List LE) : live (e :: F) = if e.2.2 then (e.1, e.2.1) :: live F else live F := rfl
theorem live_at {F : List LE} {i : Nat} {e : LE} (he : F[i]? = some e) (h : e.2.2 = true) : (live F)[(live (F.take i)).length]? = some (e.1, e.2.1) := by
  have hlt := (List.getElem?_eq_some_iff.1 he).1
  have hs : F = F.take i ++ e :: F.drop (i + 1) := by
    conv => lhs; rw [← List.take_append_drop i F, List.drop_eq_getElem_cons hlt]
    rw [(List.getElem?_eq_some_iff.1 he).2]
  conv => lhs; rw [hs, live_append]
  rw [List.take_append_of_le_length (by simp; omega), List.take_take, Nat.min_self, List.getElem?_append_right (Nat.le_refl _), Nat.sub_self]
  rw [show live (e :: F.drop (i + 1)) = (e.1, e.2.1) :: live (F.drop (i + 1)) by rw [live_cons, if_pos h]]
  rfl
theorem live_step {F : List LE} {i : Nat} {e : LE} (he : F[i]? = some e) : (live (F.take (i + 1))).length = (live (F.take i)).length + if e.2.2 then 1 else 0 := by
  rw [List.take_add_one, he, live_append, List.length_append]
  show _ + (live [e]).length = _
  rw [live_cons]
  split <;> rfl
theorem live_le (F : List LE) (i : Nat) : (live (F.take i)).length ≤ i := by
  induction i with
  | zero => simp [live]
  | succ i ih =>
    cases he : F[i]? with
    | none =>
      rw [List.take_of_length_le (by have := List.getElem?_eq_none_iff.1 he; omega)]
      rw [List.take_of_length_le (List.getElem?_eq_none_iff.1 he)] at ih
      omega
    | some e => rw [live_step he]; split <;> omega
theorem LikeR.at_ {r : Int → Int} {a b : R} (h : LikeR r a b) : ∀ {n : Nat} {x : Int × Int}, a[n]? = some x → ∃ y, b[n]? = some y ∧ r x.1 = r y.1 ∧ x.2 = y.2 := by
  induction h with
  | nil => intro n x h; simp at h
  | cons h1 h2 _ ih =>
    intro n x hx
    cases n with
    | zero => simp at hx; subst hx; exact ⟨_, rfl, h1, h2⟩
    | succ n => exact ih (by simpa using hx)
theorem LikeR.len {r : Int → Int} {a b : R} (h : LikeR r a b) : a.length = b.length := by
  induction h with
  | nil => rfl
  | cons _ _ _ ih => simp [ih]
end Go.Proofs.Ytjbelfbfhcmgeaa.Kp
