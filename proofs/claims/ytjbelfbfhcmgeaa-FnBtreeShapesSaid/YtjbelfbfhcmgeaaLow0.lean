/- FnAvlLow's plain law: a balanced tree has at least as many keys as the leanest of its height, and at most as many as fit. -/
import Derived.Test.YtjbelfbfhcmgeaaAvl9
namespace Go.Proofs.Ytjbelfbfhcmgeaa

def leanP : Nat → Nat × Nat
  | 0 => (0, 1)
  | n + 1 => ((leanP n).2, (leanP n).1 + (leanP n).2 + 1)
def lean (n : Nat) : Nat := (leanP n).1
theorem lean_two (n : Nat) : lean (n + 2) = lean n + lean (n + 1) + 1 := rfl
theorem leanP_snd (n : Nat) : (leanP n).2 = lean (n + 1) := rfl
theorem lean_step (n : Nat) : lean n ≤ lean (n + 1) := by
  cases n with
  | zero => decide
  | succ n => rw [lean_two]; omega
theorem lean_mono {a b : Nat} (h : a ≤ b) : lean a ≤ lean b := by
  induction b with
  | zero => rw [show a = 0 by omega]; exact Nat.le_refl _
  | succ b ih =>
    by_cases e : a = b + 1
    · rw [e]; exact Nat.le_refl _
    · exact Nat.le_trans (ih (by omega)) (lean_step b)
theorem Ok.nat {t : AT} (h : t.Ok) : t.ht = (t.ht.toNat : Int) := by have := h.ht0; omega
theorem Ok.low : ∀ {t : AT}, t.Ok → lean t.ht.toNat ≤ t.ids.length
  | .nil, _ => by simp [AT.ht, AT.ids, lean, leanP]
  | .node b k v h l r, ⟨⟨e, a1, a2⟩, hl, hr⟩ => by
    have il := Ok.low hl
    have ir := Ok.low hr
    have l0 := hl.ht0
    have r0 := hr.ht0
    rw [ht_node, e]
    simp only [AT.ids, List.length_cons, List.length_append]
    unfold htOf
    by_cases c : r.ht ≤ l.ht
    · have e1 : (1 + max l.ht r.ht).toNat = l.ht.toNat + 1 := by omega
      rw [e1]
      by_cases d : l.ht = 0
      · have : (l.ht.toNat + 1) = 1 := by omega
        rw [this]; simp [lean, leanP]
      · obtain ⟨m, hm⟩ : ∃ m, l.ht.toNat = m + 1 := ⟨l.ht.toNat - 1, by omega⟩
        rw [hm] at il ⊢
        rw [lean_two]
        have : lean m ≤ lean r.ht.toNat := lean_mono (by omega)
        omega
    · have e1 : (1 + max l.ht r.ht).toNat = r.ht.toNat + 1 := by omega
      rw [e1]
      obtain ⟨m, hm⟩ : ∃ m, r.ht.toNat = m + 1 := ⟨r.ht.toNat - 1, by omega⟩
      rw [hm] at ir ⊢
      rw [lean_two]
      have : lean m ≤ lean l.ht.toNat := lean_mono (by omega)
      omega
theorem Ok.top : ∀ {t : AT}, t.Ok → t.ids.length + 1 ≤ 2 ^ t.ht.toNat
  | .nil, _ => by simp [AT.ht, AT.ids]
  | .node b k v h l r, ⟨⟨e, a1, a2⟩, hl, hr⟩ => by
    have il := Ok.top hl
    have ir := Ok.top hr
    have l0 := hl.ht0
    have r0 := hr.ht0
    rw [ht_node, e]
    simp only [AT.ids, List.length_cons, List.length_append]
    unfold htOf
    have e1 : (1 + max l.ht r.ht).toNat = (max l.ht r.ht).toNat + 1 := by omega
    rw [e1, Nat.pow_succ]
    have h1 : 2 ^ l.ht.toNat ≤ 2 ^ (max l.ht r.ht).toNat := Nat.pow_le_pow_right (by decide) (by omega)
    have h2 : 2 ^ r.ht.toNat ≤ 2 ^ (max l.ht r.ht).toNat := Nat.pow_le_pow_right (by decide) (by omega)
    omega
theorem lean50 : 20000000000 < lean 50 := by decide
theorem Ok.lt50 {t : AT} (h : t.Ok) (hs : t.ids.length ≤ 10000000000) : t.ht < 50 := by
  have h1 := Ok.low h
  have h2 := lean50
  have h3 := h.ht0
  by_cases c : t.ht.toNat < 50
  · omega
  · have := lean_mono (show 50 ≤ t.ht.toNat by omega); omega
/-- the script in which size and height are told behind each step. -/
def asksOf : List ActD → List ActD
  | [] => []
  | a :: l => a :: ⟨3, 0, 0⟩ :: ⟨5, 0, 0⟩ :: asksOf l
theorem asksOf_len : ∀ l, (asksOf l).length = 3 * l.length
  | [] => rfl
  | a :: l => by simp [asksOf, asksOf_len l]; omega
theorem asksOf_snoc (a : ActD) : ∀ l, asksOf (l ++ [a]) = asksOf l ++ [a, ⟨3, 0, 0⟩, ⟨5, 0, 0⟩]
  | [] => rfl
  | b :: l => by simp [asksOf, asksOf_snoc a l]
theorem step_ok (xs : List Int) (a : ActD) (t : AT) (h : t.Ok) : (stepA xs a 0 t).1.Ok ∧ (stepA xs a 0 t).1.ids.length ≤ t.ids.length + 1 := by
  unfold stepA
  split
  · exact ⟨(add_ok xs a.key _ 0 t h).1, grow_len (add_ids xs a.key _ 0 t)⟩
  · split
    · refine ⟨(rem_ok xs t a.key h).1, ?_⟩
      obtain ⟨L, hp⟩ := rem_ids xs t a.key
      have := hp.length_eq
      rw [List.length_append] at this
      show (t.rem xs a.key).ids.length ≤ t.ids.length + 1
      omega
    · repeat' split
      all_goals exact ⟨h, by simp⟩
theorem low_tells (xs : List Int) : ∀ (l : List ActD) (t : AT), t.Ok → ∀ i, i < l.length →
    ∃ t' : AT, t'.Ok ∧ t'.ids.length ≤ t.ids.length + (i + 1) ∧ (runA xs t (asksOf l)).2[3 * i + 1]? = some ⟨t'.ids.length, false, [], []⟩ ∧ (runA xs t (asksOf l)).2[3 * i + 2]? = some ⟨t'.ht, false, [], []⟩
  | [], _, _, i, hi => by simp at hi
  | a :: l, t, ht, i, hi => by
    have h1 := step_ok xs a t ht
    cases i with
    | zero =>
      refine ⟨(stepA xs a 0 t).1, h1.1, by omega, ?_, ?_⟩
      · show some (ToldD.mk ((stepA xs a 0 t).1.keys.length : Int) false [] []) = _
        rw [AT.keys_len]
      · rfl
    | succ i =>
      obtain ⟨t', a1, a2, a3, a4⟩ := low_tells xs l (stepA xs a 0 t).1 h1.1 i (by simpa using hi)
      refine ⟨t', a1, by omega, ?_, ?_⟩
      · rw [← a3]; rfl
      · rw [← a4]; rfl
end Go.Proofs.Ytjbelfbfhcmgeaa
