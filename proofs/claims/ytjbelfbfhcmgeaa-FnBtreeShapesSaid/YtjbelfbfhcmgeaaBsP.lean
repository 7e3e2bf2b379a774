/- B-trees as data: how many nodes there are; no program in sight. -/
import Derived.Test.YtjbelfbfhcmgeaaBsZ
namespace Go.Proofs.Ytjbelfbfhcmgeaa.Kp
open Om Bt

/-- inner nodes have two parts at least. -/
def Min2 : (h : Nat) → BE h → Prop
  | 0, _ => True
  | h + 1, ks => 2 ≤ List.length (α := Int × BE h) ks ∧ ∀ e ∈ (show List (Int × BE h) from ks), Min2 h e.2
def MinO (h : Nat) : BE h × Option (BE h) → Prop
  | (t, none) => Min2 h t
  | (t, some u) => Min2 h t ∧ Min2 h u
theorem mem_set' {α : Type} {l : List α} {i : Nat} {x y : α} (h : y ∈ l.set i x) : y = x ∨ y ∈ l := by
  rcases List.mem_or_eq_of_mem_set h with h | h
  · exact .inr h
  · exact .inl h
theorem mem_insAt {α : Type} {l : List α} {i : Nat} {x y : α} (h : y ∈ insAt i x l) : y = x ∨ y ∈ l := by
  unfold insAt at h
  rcases List.mem_append.1 h with h | h
  · exact .inr (List.mem_of_mem_take h)
  · rcases List.mem_cons.1 h with h | h
    · exact .inl h
    · exact .inr (List.mem_of_mem_drop h)
theorem insN_min {h : Nat} {r : Int → Int} {ins : BE h → BE h × Option (BE h)} {k : Int} {ks : List (Int × BE h)} (hk : 2 ≤ ks.length) (hl : ks.length < 64) (hm : ∀ e ∈ ks, Min2 h e.2) (hi : ∀ e ∈ ks, MinO h (ins e.2)) :
    MinO (h + 1) (insN r ins (fstK h) k ks) := by
  unfold insN
  cases he : ks[ji r k ks]? with
  | none => exact ⟨hk, hm⟩
  | some e =>
    have hmem : e ∈ ks := List.mem_of_getElem? he
    have hie := hi e hmem
    simp only
    generalize ins e.2 = q at hie
    obtain ⟨c, u⟩ := q
    cases u with
    | none =>
      refine ⟨by rw [List.length_set]; exact hk, fun y hy => ?_⟩
      rcases mem_set' hy with rfl | hy
      · exact hie
      · exact hm y hy
    | some u =>
      obtain ⟨h1, h2⟩ := hie
      simp only
      have hall : ∀ y ∈ insAt (ji r k ks + 1) (fstK h u, u) (ks.set (ji r k ks) (e.1, c)), Min2 h y.2 := by
        intro y hy
        rcases mem_insAt hy with rfl | hy
        · exact h2
        · rcases mem_set' hy with rfl | hy
          · exact h1
          · exact hm y hy
      have hlen : (insAt (ji r k ks + 1) (fstK h u, u) (ks.set (ji r k ks) (e.1, c))).length = ks.length + 1 := by
        have hj : ji r k ks < ks.length := (List.getElem?_eq_some_iff.1 he).1
        unfold insAt
        simp; omega
      generalize insAt (ji r k ks + 1) (fstK h u, u) (ks.set (ji r k ks) (e.1, c)) = L at hall hlen
      unfold split
      split
      · exact ⟨by omega, hall⟩
      · refine ⟨⟨?_, fun y hy => hall y (List.mem_of_mem_take hy)⟩, ⟨?_, fun y hy => hall y (List.mem_of_mem_drop hy)⟩⟩
        · show 2 ≤ (L.take 32).length; rw [List.length_take]; omega
        · show 2 ≤ (L.drop 32).length; rw [List.length_drop]; omega
theorem insE_min {r : Int → Int} {k v : Int} {b : Bool} : ∀ (h : Nat) (t : BE h), Bt.Wf r h t → Min2 h t → MinO h (insE r h t k v b)
  | 0, es, _, _ => by
    show MinO 0 (Bt.insL r k v b es)
    generalize Bt.insL r k v b es = q
    obtain ⟨c, u⟩ := q
    cases u with
    | none => exact trivial
    | some u => exact ⟨trivial, trivial⟩
  | h + 1, ks, hw, hm => by
    have hw' : WfN r (Bt.Wf r h) (Bt.flat h) ks := hw
    obtain ⟨_, h1, h2, _⟩ := hw'
    exact insN_min (ins := fun t => insE r h t k v b) hm.1 h1 hm.2 (fun e he => insE_min h e.2 (h2 e he).1 (hm.2 e he))
def BMin (s : Bt.BT) : Prop := Min2 s.1 s.2
theorem putB_min {r : Int → Int} {k v : Int} {s : Bt.BT} (hw : s.Wf r) (hm : BMin s) : BMin (putB r k v s) := by
  obtain ⟨h, t⟩ := s
  have hq := insE_min (r := r) (k := k) (v := v) (b := true) h t hw hm
  unfold putB
  simp only
  generalize insE r h t k v true = q at hq
  obtain ⟨c, u⟩ := q
  cases u with
  | none => exact hq
  | some u =>
    refine ⟨Nat.le_refl 2, fun e he => ?_⟩
    rcases List.mem_cons.1 he with rfl | he
    · exact hq.1
    · rcases List.mem_cons.1 he with rfl | he
      · exact hq.2
      · cases he
theorem remB_min {r : Int → Int} {k : Int} {s : Bt.BT} (hw : s.Wf r) (hm : BMin s) : BMin (remB r k s) := by
  obtain ⟨h, t⟩ := s
  have hq := insE_min (r := r) (k := k) (v := 0) (b := false) h t hw hm
  unfold remB
  split
  · simp only
    generalize insE r h t k 0 false = q at hq
    obtain ⟨c, u⟩ := q
    cases u with
    | none => exact hq
    | some u => exact hq.1
  · exact hm
theorem stepB_min {r : Int → Int} {a : ActD} {s : Bt.BT} (hw : s.Wf r) (hm : BMin s) : BMin (stepB r a s).1 := by
  unfold stepB
  split
  · exact putB_min hw hm
  · split
    · exact remB_min hw hm
    · split
      · exact hm
      · split <;> exact hm
theorem runB_min {r : Int → Int} : ∀ (l : List ActD) {s : Bt.BT} {m : R}, BM r s m → BMin s → BMin (runB r s l).1
  | [], _, _, _, h => h
  | a :: l, _, _, hb, h => runB_min l (hb.step a) (stepB_min hb.wf h)
/-- how many nodes there are. -/
theorem shape_len {r : Int → Int} : ∀ (h : Nat) (t : BE h), Bt.Wf r h t → Min2 h t → (shapeE h t).length + 1 ≤ 2 * max 1 (Bt.flat h t).length
  | 0, es, _, _ => by
    show 1 + 1 ≤ _
    omega
  | h + 1, ks, hw, hm => by
    have hw' : WfN r (Bt.Wf r h) (Bt.flat h) ks := hw
    obtain ⟨_, _, h2, _⟩ := hw'
    have hm2 : ∀ e ∈ (show List (Int × BE h) from ks), Min2 h e.2 := hm.2
    have key : ∀ L : List (Int × BE h), (∀ e ∈ L, e ∈ (show List (Int × BE h) from ks)) → (L.flatMap fun e => shapeE h e.2).length + L.length ≤ 2 * (flatN (Bt.flat h) L).length := by
      intro L
      induction L with
      | nil => intro _; simp
      | cons e L ih =>
        intro hL
        have he := hL e (List.mem_cons_self ..)
        have h3 := shape_len h e.2 (h2 e he).1 (hm2 e he)
        have h4 := ih (fun x hx => hL x (List.mem_cons_of_mem _ hx))
        have h5 : 0 < (Bt.flat h e.2).length := List.length_pos_iff.2 (h2 e he).2
        rw [List.flatMap_cons, List.length_append, List.length_cons, flatN_cons, List.length_append]
        have : max 1 (Bt.flat h e.2).length = (Bt.flat h e.2).length := by omega
        omega
    have h6 := key ks (fun _ h => h)
    have h7 : 2 ≤ List.length (α := Int × BE h) ks := hm.1
    have e1 : (shapeE (h + 1) ks).length = (List.flatMap (fun e : Int × BE h => shapeE h e.2) ks).length + 1 := rfl
    have e2 : (Bt.flat (h + 1) ks).length = (flatN (Bt.flat h) ks).length := rfl
    rw [e1, e2]
    omega
end Go.Proofs.Ytjbelfbfhcmgeaa.Kp
