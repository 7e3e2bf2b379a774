/- AVL trees as data: their entries from left to right are a map by definition; no program in sight. -/
import Derived.Test.YtjbelfbfhcmgeaaAvl8
import Derived.Test.YtjbelfbfhcmgeaaOrdMap
namespace Go.Proofs.Ytjbelfbfhcmgeaa
open Om

def AT.prs : AT → R
  | .nil => []
  | .node _ k v _ l r => l.prs ++ (k, valI v) :: r.prs
theorem AT.keys_prs : ∀ t : AT, t.keys = t.prs.map Prod.fst
  | .nil => rfl
  | .node _ _ _ _ l r => by simp [AT.keys, AT.prs, keys_prs l, keys_prs r]
theorem AT.vals_prs : ∀ t : AT, t.vals = t.prs.map Prod.snd
  | .nil => rfl
  | .node _ _ _ _ l r => by simp [AT.vals, AT.prs, vals_prs l, vals_prs r]
theorem rotL_prs (t : AT) : (rotL t).prs = t.prs := by unfold rotL; split <;> simp [mkN, AT.prs]
theorem rotR_prs (t : AT) : (rotR t).prs = t.prs := by unfold rotR; split <;> simp [mkN, AT.prs]
theorem fixR_prs (t : AT) : (fixR t).prs = t.prs := by
  unfold fixR; split
  · split
    · exact rotR_prs _
    · rfl
  · rfl
theorem fixL_prs (t : AT) : (fixL t).prs = t.prs := by
  unfold fixL; split
  · split
    · exact rotL_prs _
    · rfl
  · rfl
theorem reb_prs (t : AT) : (reb t).prs = t.prs := by
  unfold reb; split
  · split
    · rw [rotL_prs]; simp [AT.prs, fixR_prs]
    · split
      · rw [rotR_prs]; simp [AT.prs, fixL_prs]
      · rfl
  · rfl
theorem cmp_neg {xs : List Int} {a b : Int} : cmpOf xs a b < 0 ↔ rankOf xs a < rankOf xs b := by
  unfold cmpOf; split
  · simp; assumption
  · split <;> simp <;> omega
theorem cmp_pos {xs : List Int} {a b : Int} : 0 < cmpOf xs a b ↔ rankOf xs b < rankOf xs a := by
  unfold cmpOf; split
  · simp; omega
  · split <;> simp <;> omega
theorem add_prs (xs : List Int) (k x : Int) (nb : Nat) : ∀ t : AT, Rises (rankOf xs) t.prs → (t.add xs k (.int .i64 x) nb).prs = putL (rankOf xs) k x t.prs
  | .nil, _ => rfl
  | .node b k2 v2 h l r, hr => by
    obtain ⟨r1, r2, r3, r4⟩ := rises_node hr
    unfold AT.add
    simp only [AT.prs, cmp_neg, cmp_pos]
    split
    · rename_i c
      rw [reb_prs, putL_left (by exact c)]; simp only [AT.prs]; rw [add_prs xs k x nb l r1]
    · split
      · rename_i c
        rw [reb_prs, putL_right (by exact c) _ r3]; simp only [AT.prs]; rw [add_prs xs k x nb r r2]
      · rw [reb_prs, putL_at (by simp only; omega) _ r3]; rfl
theorem least_prs : ∀ {t : AT}, t ≠ .nil → ∃ xs, t.prs = (t.least.2.1, valI t.least.2.2) :: xs
  | .nil, h => absurd rfl h
  | .node _ _ _ _ .nil r, _ => ⟨r.prs, rfl⟩
  | .node _ _ _ _ (.node b k v h l r) _, _ => by
    obtain ⟨xs, e⟩ := least_prs (t := .node b k v h l r) (by simp)
    exact ⟨xs ++ _, by rw [AT.prs, e]; rfl⟩
theorem rem_prs (xs : List Int) : ∀ (t : AT) (k : Int), Rises (rankOf xs) t.prs → (t.rem xs k).prs = remL (rankOf xs) k t.prs
  | .nil, _, _ => rfl
  | .node b k2 v2 h l r, k, hr => by
    obtain ⟨r1, r2, r3, r4⟩ := rises_node hr
    unfold AT.rem
    simp only [AT.prs, cmp_neg, cmp_pos]
    rw [remL_append, remL_cons]
    split
    · rename_i c
      rw [reb_prs, if_neg (by simp only; omega), remL_none (xs := r.prs) (fun x hx => by have := r4 x hx; simp only at this; omega)]
      simp only [AT.prs]; rw [rem_prs xs l k r1]
    · rw [remL_none (xs := l.prs) (fun x hx => by have := r3 x hx; simp only at this; omega)]
      split
      · rename_i c
        rw [reb_prs, if_neg (by simp only; omega)]
        simp only [AT.prs]; rw [rem_prs xs r k r2]
      · rw [if_pos (by simp only; omega), remL_none (xs := r.prs) (fun x hx => by have := r4 x hx; simp only at this; omega)]
        have er := rem_prs xs r r.least.2.1 r2
        cases l with
        | nil => cases r with
          | nil => rfl
          | node b' k' v' h' l' r' => simp only [remTop]; rw [reb_prs]; rfl
        | node b' k' v' h' l' r' =>
          cases r with
          | nil => simp only [remTop]; rw [reb_prs]; simp [AT.prs]
          | node b4 k4 v4 h4 l4 u4 =>
            obtain ⟨ys, e⟩ := least_prs (t := .node b4 k4 v4 h4 l4 u4) (by simp)
            simp only [remTop]
            rw [reb_prs]
            rw [AT.prs, er, e, remL_cons, if_pos rfl]
            have hx := r2
            rw [e] at hx
            rw [remL_none (fun x hx' => by have := (List.pairwise_cons.1 hx).1 x hx'; simp only at this; omega)]
theorem get_prs (xs : List Int) (k : Int) : ∀ t : AT, Rises (rankOf xs) t.prs → t.get xs k = match getL (rankOf xs) k t.prs with | some p => (p.2, true) | none => (0, false)
  | .nil, _ => rfl
  | .node b k2 v2 h l r, hr => by
    obtain ⟨r1, r2, r3, r4⟩ := rises_node hr
    have hl := get_prs xs k l r1
    have hR := get_prs xs k r r2
    unfold AT.get at *
    unfold AT.find
    simp only [AT.prs, cmp_neg, cmp_pos]
    split
    · rename_i hh
      split at hh
      · rename_i c
        rw [getL_left (fun y hy => by
          rcases List.mem_cons.1 hy with rfl | hy
          · exact c
          · have := r4 y hy; simp only at this; omega), ← hl, hh]
      · split at hh
        · rename_i c
          rw [getL_right (fun x hx => by have := r3 x hx; simp only at this; omega), getL_tail (by simp only; omega), ← hR, hh]
        · cases hh
    · rename_i hh
      split at hh
      · rename_i c
        rw [getL_left (fun y hy => by
          rcases List.mem_cons.1 hy with rfl | hy
          · exact c
          · have := r4 y hy; simp only at this; omega), ← hl, hh]
      · split at hh
        · rename_i c
          rw [getL_right (fun x hx => by have := r3 x hx; simp only at this; omega), getL_tail (by simp only; omega), ← hR, hh]
        · cases hh
          rw [getL_right (fun x hx => by have := r3 x hx; simp only at this; omega), getL_head (by simp only; omega)]
theorem step_rises (xs : List Int) (a : ActD) (nb : Nat) (t : AT) (h : Rises (rankOf xs) t.prs) : Rises (rankOf xs) (stepA xs a nb t).1.prs := by
  unfold stepA
  repeat' split
  all_goals first | exact h | (simp only; rw [add_prs _ _ _ _ _ h]; exact putL_rises _ h) | (simp only; rw [rem_prs _ _ _ h]; exact remL_rises h)
theorem run_rises (xs : List Int) : ∀ (l : List ActD) (t : AT), Rises (rankOf xs) t.prs → Rises (rankOf xs) (runA xs t l).1.prs
  | [], _, h => h
  | a :: l, t, h => run_rises xs l _ (step_rises xs a 0 t h)
/-- the map behind a step. -/
def mapS (r : Int → Int) (a : ActD) (m : R) : R := if a.act = 0 then putL r a.key a.val m else if a.act = 1 then remL r a.key m else m
def mapR (r : Int → Int) (l : List ActD) (m : R) : R := l.foldl (fun m a => mapS r a m) m
theorem step_prs (xs : List Int) (a : ActD) (nb : Nat) (t : AT) (h : Rises (rankOf xs) t.prs) : (stepA xs a nb t).1.prs = mapS (rankOf xs) a t.prs := by
  unfold stepA mapS
  repeat' split
  all_goals first | rfl | exact add_prs _ _ _ _ _ h | exact rem_prs _ _ _ h
theorem run_prs (xs : List Int) : ∀ (l : List ActD) (t : AT), Rises (rankOf xs) t.prs → (runA xs t l).1.prs = mapR (rankOf xs) l t.prs
  | [], _, _ => rfl
  | a :: l, t, h => by
    show (runA xs (stepA xs a 0 t).1 l).1.prs = mapR _ l (mapS _ a t.prs)
    rw [run_prs xs l _ (step_rises xs a 0 t h), step_prs xs a 0 t h]
end Go.Proofs.Ytjbelfbfhcmgeaa
