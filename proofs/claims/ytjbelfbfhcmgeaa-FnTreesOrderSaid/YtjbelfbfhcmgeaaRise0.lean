/- scripts on trees of either kind: what a walk tells is a map in order, and a Get of its keys tells its values; no program in sight. -/
import Derived.Test.YtjbelfbfhcmgeaaTrS
namespace Go.Proofs.Ytjbelfbfhcmgeaa.Kp
open Om Bt

theorem getL_mem {r : Int → Int} : ∀ {P : R}, Rises r P → ∀ p ∈ P, getL r p.1 P = some p
  | [], _, p, hp => by cases hp
  | x :: P, h, p, hp => by
    unfold Rises at h
    rw [List.pairwise_cons] at h
    rcases List.mem_cons.1 hp with rfl | hp
    · exact getL_head rfl
    · have := h.1 p hp
      rw [getL_tail (by omega)]
      exact getL_mem h.2 p hp
theorem look_mem {r : Int → Int} : ∀ {F : List LE}, Rise r F → ∀ p ∈ live F, Bt.look r p.1 F = (p.2, true)
  | [], _, p, hp => by cases hp
  | e :: F, h, p, hp => by
    unfold Rise at h
    rw [List.pairwise_cons] at h
    have tail : p ∈ live F → Bt.look r p.1 (e :: F) = (p.2, true) := fun hp => by
      obtain ⟨e', he, hk⟩ := live_mem hp
      have := h.1 e' he
      unfold Bt.look
      rw [if_pos (by rw [← hk]; exact this)]
      exact look_mem h.2 p hp
    unfold live at hp
    split at hp
    · rename_i c
      rcases List.mem_cons.1 hp with rfl | hp
      · unfold Bt.look
        rw [if_neg (by simp only; omega), if_pos rfl]
        exact Prod.ext rfl c
      · exact tail hp
    · exact tail hp
theorem live_rises {r : Int → Int} : ∀ {F : List LE}, Rise r F → Rises r (live F)
  | [], _ => List.Pairwise.nil
  | e :: F, h => by
    unfold Rise at h
    rw [List.pairwise_cons] at h
    have ih := live_rises h.2
    unfold live
    split
    · refine List.pairwise_cons.2 ⟨fun p hp => ?_, ih⟩
      obtain ⟨e', he, hk⟩ := live_mem hp
      have := h.1 e' he
      simp only; rw [← hk]; exact this
    · exact ih
theorem runA_gets (xs : List Int) (t : AT) : ∀ P : R, (runA xs t (P.map fun p => (⟨2, p.1, 0⟩ : ActD))).2 = P.map fun p => (⟨(t.get xs p.1).1, (t.get xs p.1).2, [], []⟩ : ToldD)
  | [] => rfl
  | p :: P => by
    have ih := runA_gets xs t P
    have e : stepA xs ⟨2, p.1, 0⟩ 0 t = (t, ⟨(t.get xs p.1).1, (t.get xs p.1).2, [], []⟩) := rfl
    simp only [List.map_cons, runA, e, ih]
theorem runB_gets (r : Int → Int) (s : Bt.BT) : ∀ P : R, (runB r s (P.map fun p => (⟨2, p.1, 0⟩ : ActD))).2 = P.map fun p => (⟨(getE r s.1 s.2 p.1).1, (getE r s.1 s.2 p.1).2, [], []⟩ : ToldD)
  | [] => rfl
  | p :: P => by
    have ih := runB_gets r s P
    have e : stepB r ⟨2, p.1, 0⟩ s = (s, ⟨(getE r s.1 s.2 p.1).1, (getE r s.1 s.2 p.1).2, [], []⟩) := rfl
    simp only [List.map_cons, runB, e, ih]
def asksOf (l : List ActD) (P : R) : List ActD := l ++ ⟨3, 0, 0⟩ :: P.map fun p => ⟨2, p.1, 0⟩
/-- what is known of a tree's scripts. -/
structure RunOk (r : Int → Int) (F : List ActD → List ToldD) (l : List ActD) (P : R) (k0 : Bool) : Prop where
  len : ∀ l', (F l').length = l'.length
  all : F (l ++ [⟨4, 0, 0⟩]) = F l ++ [⟨0, false, P.map Prod.fst, P.map Prod.snd⟩]
  rise : Rises r P
  pl : P.length ≤ l.length
  asks : ∃ d, F (asksOf l P) = F l ++ d :: P.map (fun p => (⟨p.2, true, [], []⟩ : ToldD)) ∧ (k0 = true → d.val = (P.length : Nat))
theorem rises_nil (xs : List Int) : Rises (rankOf xs) AT.nil.prs := List.Pairwise.nil
theorem avl_ok (xs : List Int) (l : List ActD) : RunOk (rankOf xs) (runN xs) l (mapR (rankOf xs) l []) true := by
  have hp := run_prs xs l .nil (rises_nil xs)
  have hr := run_rises xs l .nil (rises_nil xs)
  refine ⟨fun l' => runA_len xs l' .nil, ?_, mapU_rises l [] List.Pairwise.nil, ?_, ?_⟩
  · unfold runN
    rw [runA_snoc]
    show _ ++ [(⟨0, false, (runA xs .nil l).1.keys, (runA xs .nil l).1.vals⟩ : ToldD)] = _
    rw [AT.keys_prs, AT.vals_prs, hp]; rfl
  · have := mapU_len (r := rankOf xs) l []
    simpa using this
  · have e : (runA xs .nil (asksOf l (mapR (rankOf xs) l []))).2 = (runA xs .nil l).2 ++ (⟨(runA xs .nil l).1.keys.length, false, [], []⟩ : ToldD) :: (runA xs (runA xs .nil l).1 ((mapR (rankOf xs) l []).map fun p => (⟨2, p.1, 0⟩ : ActD))).2 := by
      unfold asksOf
      rw [runA_append]; rfl
    refine ⟨⟨(runA xs .nil l).1.keys.length, false, [], []⟩, e.trans ?_, fun _ => ?_⟩
    · rw [runA_gets]
      congr 2
      refine List.map_congr_left fun p hpm => ?_
      rw [get_prs xs _ _ hr, hp, show AT.nil.prs = ([] : R) from rfl, getL_mem (mapU_rises l [] List.Pairwise.nil) p hpm]
    · show (((runA xs .nil l).1.keys.length : Nat) : Int) = _
      rw [AT.keys_prs, hp, List.length_map]; rfl
theorem btree_ok (xs : List Int) (l : List ActD) : RunOk (rankOf xs) (fun l => (runB (rankOf xs) newB l).2) l (live (runB (rankOf xs) newB l).1.flat) false := by
  have hb := runB_bm l (BM.new (rankOf xs))
  have hr := hb.wf.rise
  refine ⟨fun l' => runB_len _ l' _, ?_, live_rises hr, ?_, ?_⟩
  · show (runB (rankOf xs) newB (l ++ [⟨4, 0, 0⟩])).2 = _
    rw [runB_append]; rfl
  · rw [hb.like.len]
    have := mapU_len (r := rankOf xs) l []
    simpa using this
  · refine ⟨.none, ?_, fun h => by cases h⟩
    show (runB (rankOf xs) newB (asksOf l _)).2 = _
    unfold asksOf
    rw [runB_append]
    show (runB (rankOf xs) newB l).2 ++ .none :: (runB (rankOf xs) (runB (rankOf xs) newB l).1 _).2 = _
    rw [runB_gets]
    congr 2
    refine List.map_congr_left fun p hpm => ?_
    rw [getB_flat hb.wf, look_mem hr p hpm]
end Go.Proofs.Ytjbelfbfhcmgeaa.Kp
