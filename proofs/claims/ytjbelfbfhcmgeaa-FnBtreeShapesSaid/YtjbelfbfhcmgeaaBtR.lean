/- scripts on B-trees: what they tell, against the map by definition; no program in sight. -/
import Derived.Test.YtjbelfbfhcmgeaaBtA
import Derived.Test.YtjbelfbfhcmgeaaSpecT4
namespace Go.Proofs.Ytjbelfbfhcmgeaa.Kp
open Om Bt

def stepB (r : Int → Int) (a : ActD) (s : Bt.BT) : Bt.BT × ToldD :=
  if a.act = 0 then (putB r a.key a.val s, .none)
  else if a.act = 1 then (remB r a.key s, .none)
  else if a.act = 2 then (s, ⟨(getE r s.1 s.2 a.key).1, (getE r s.1 s.2 a.key).2, [], []⟩)
  else if a.act = 4 then (s, ⟨0, false, (live s.flat).map Prod.fst, (live s.flat).map Prod.snd⟩)
  else (s, .none)
def runB (r : Int → Int) : Bt.BT → List ActD → Bt.BT × List ToldD
  | s, [] => (s, [])
  | s, a :: l => let q := stepB r a s; let p := runB r q.1 l; (p.1, q.2 :: p.2)
theorem runB_append (r : Int → Int) : ∀ (a b : List ActD) (s : Bt.BT), runB r s (a ++ b) = ((runB r (runB r s a).1 b).1, (runB r s a).2 ++ (runB r (runB r s a).1 b).2)
  | [], _, _ => rfl
  | x :: a, b, s => by simp only [List.cons_append, runB, runB_append r a b]
theorem runB_len (r : Int → Int) : ∀ (l : List ActD) (s : Bt.BT), (runB r s l).2.length = l.length
  | [], _ => rfl
  | a :: l, s => by simp [runB, runB_len r l]
/-- what a tree and the map have in common. -/
structure BM (r : Int → Int) (s : Bt.BT) (m : R) : Prop where
  wf : s.Wf r
  like : LikeR r (live s.flat) m
  rises : Rises r m
theorem BM.new (r : Int → Int) : BM r newB [] := ⟨newB_wf, .nil, List.Pairwise.nil⟩
theorem BM.step {r : Int → Int} {s : Bt.BT} {m : R} (h : BM r s m) (a : ActD) : BM r (stepB r a s).1 (mapS r a m) := by
  unfold stepB mapS
  split
  · obtain ⟨h1, h2⟩ := putB_flat (k := a.key) (v := a.val) h.wf
    exact ⟨h2, by simp only [h1]; exact put_like h.wf.rise h.like, putL_rises _ h.rises⟩
  · split
    · obtain ⟨h1, h2⟩ := remB_flat (k := a.key) h.wf
      refine ⟨h2, ?_, remL_rises h.rises⟩
      simp only [h1]
      split
      · rename_i c; exact rem_like h.wf.rise h.like c
      · rename_i c
        rw [rem_none h.wf.rise h.like (by simpa using c)]
        exact h.like
    · split
      · exact h
      · split <;> exact h
/-- a step of the tree tells what the map tells, up to likeness; of a size nothing. -/
def SameT (r : Int → Int) (a : ActD) (d e : ToldD) : Prop :=
  d.ok = e.ok ∧ d.vals = e.vals ∧ d.keys.map r = e.keys.map r ∧ ((a.act = 2 ∧ d.ok = false) ∨ d.val = e.val)
theorem BM.tell {r : Int → Int} {s : Bt.BT} {m : R} (h : BM r s m) (a : ActD) (h3 : a.act ≠ 3) : SameT r a (stepB r a s).2 (tellT r a m) := by
  unfold stepB tellT SameT
  by_cases c0 : a.act = 0
  · rw [if_pos c0, if_neg (by omega), if_neg h3, if_neg (by omega)]; exact ⟨rfl, rfl, rfl, .inr rfl⟩
  rw [if_neg c0]
  by_cases c1 : a.act = 1
  · rw [if_pos c1, if_neg (by omega), if_neg h3, if_neg (by omega)]; exact ⟨rfl, rfl, rfl, .inr rfl⟩
  rw [if_neg c1]
  by_cases c2 : a.act = 2
  · rw [if_pos c2, if_pos c2, getB_flat h.wf]
    obtain ⟨g1, g2⟩ := get_like (k := a.key) h.wf.rise h.like
    unfold getT
    cases hq : (Bt.look r a.key s.flat).2 with
    | true =>
      obtain ⟨p, e1, e2⟩ := g1 hq
      rw [e1]
      exact ⟨rfl, rfl, rfl, .inr e2.symm⟩
    | false =>
      rw [g2 hq]
      exact ⟨rfl, rfl, rfl, .inl ⟨c2, rfl⟩⟩
  rw [if_neg c2, if_neg c2, if_neg h3]
  by_cases c4 : a.act = 4
  · rw [if_pos c4, if_pos c4]
    exact ⟨rfl, h.like.vals, h.like.keys, .inr rfl⟩
  · rw [if_neg c4, if_neg c4]
    exact ⟨rfl, rfl, rfl, .inr rfl⟩
theorem runB_bm {r : Int → Int} : ∀ (l : List ActD) {s : Bt.BT} {m : R}, BM r s m → BM r (runB r s l).1 (mapR r l m)
  | [], _, _, h => h
  | a :: l, _, _, h => runB_bm l (h.step a)
/-- what the steps of a map tell. -/
def runM (r : Int → Int) : R → List ActD → List ToldD
  | _, [] => []
  | m, a :: l => tellT r a m :: runM r (mapS r a m) l
theorem runM_len (r : Int → Int) : ∀ (l : List ActD) (m : R), (runM r m l).length = l.length
  | [], _ => rfl
  | a :: l, m => by simp [runM, runM_len r l]
theorem runB_same {r : Int → Int} : ∀ (l : List ActD) {s : Bt.BT} {m : R}, BM r s m → ∀ (i : Nat) a d e, l[i]? = some a → (runB r s l).2[i]? = some d → (runM r m l)[i]? = some e → a.act ≠ 3 → SameT r a d e
  | [], _, _, _, i, a, d, e, h, _, _, _ => by simp at h
  | b :: l, s, m, h, 0, a, d, e, h1, h2, h3, h4 => by
    simp [runB, runM] at h1 h2 h3
    subst h1 h2 h3
    exact h.tell b h4
  | b :: l, s, m, h, i + 1, a, d, e, h1, h2, h3, h4 => runB_same l (h.step b) i a d e (by simpa using h1) (by simpa [runB] using h2) (by simpa [runM] using h3) h4
theorem mapSb_len (r : Int → Int) (a : ActD) (m : R) : (mapS r a m).length ≤ m.length + 1 := by
  unfold mapS
  split
  · exact putL_len m
  · split
    · have := remL_len (r := r) (k := a.key) m; omega
    · omega
theorem ups_flat_len {r : Int → Int} {s : Bt.BT} (a : ActD) (h : s.Wf r) : (stepB r a s).1.flat.length ≤ s.flat.length + 1 ∧ (stepB r a s).1.1 ≤ s.1 + 1 := by
  unfold stepB
  split
  · rw [(putB_flat h).1]
    exact ⟨ups_len _, putB_h _ _ _ _⟩
  · split
    · rw [(remB_flat h).1]
      refine ⟨?_, by simp [remB_h]⟩
      split
      · exact ups_len _
      · omega
    · split
      · simp
      · split <;> simp
end Go.Proofs.Ytjbelfbfhcmgeaa.Kp
