/- interval trees as data: what the calls make of them; the plain law: no program in sight. -/
import Derived.Tactics
namespace Go.Proofs.Ytomclflknjkhfaa.ItP

structure Sp where
  lo : Int
  hi : Int
  v : Int
deriving DecidableEq
inductive IT where
  | nil
  | node (b : Nat) (s : Sp) (h mx : Int) (l r : IT)
def IT.ht : IT → Int
  | .nil => 0
  | .node _ _ h _ _ _ => h
/-- the greater one of a number and a tree's greatest end. -/
def IT.mxl (m : Int) : IT → Int
  | .nil => m
  | .node _ _ _ mx _ _ => max m mx
def IT.ids : IT → List Nat
  | .nil => []
  | .node b _ _ _ l r => b :: (l.ids ++ r.ids)
def IT.list : IT → List Sp
  | .nil => []
  | .node _ s _ _ l r => l.list ++ s :: r.list
def htOf (l r : IT) : Int := 1 + max l.ht r.ht
def mxOf (hi : Int) (l r : IT) : Int := l.mxl (r.mxl hi)
def mkN (b : Nat) (s : Sp) (l r : IT) : IT := .node b s (htOf l r) (mxOf s.hi l r) l r
def rotL : IT → IT
  | .node b s _ _ l (.node c s2 _ _ l2 r2) => mkN c s2 (mkN b s l l2) r2
  | t => t
def rotR : IT → IT
  | .node b s _ _ (.node c s2 _ _ l2 r2) r => mkN c s2 l2 (mkN b s r2 r)
  | t => t
def fixR : IT → IT
  | .node c s h m l r => if r.ht < l.ht then rotR (.node c s h m l r) else .node c s h m l r
  | t => t
def fixL : IT → IT
  | .node c s h m l r => if l.ht < r.ht then rotL (.node c s h m l r) else .node c s h m l r
  | t => t
def reb : IT → IT
  | .node b s _ _ l r => if l.ht - r.ht ≤ -2 then rotL (.node b s (htOf l r) (mxOf s.hi l r) l (fixR r)) else if 2 ≤ l.ht - r.ht then rotR (.node b s (htOf l r) (mxOf s.hi l r) (fixL l) r) else mkN b s l r
  | t => t
/-- right heights and greatest ends. -/
def IT.Rt : IT → Prop
  | .nil => True
  | .node _ s h mx l r => (h = htOf l r ∧ mx = mxOf s.hi l r) ∧ l.Rt ∧ r.Rt
theorem mk_rt {b : Nat} {s : Sp} {l r : IT} (hl : l.Rt) (hr : r.Rt) : (mkN b s l r).Rt := ⟨⟨rfl, rfl⟩, hl, hr⟩
theorem rotL_rt : ∀ {t : IT}, t.Rt → (rotL t).Rt
  | .nil, h => h
  | .node _ _ _ _ _ .nil, h => h
  | .node b s _ _ l (.node c s2 _ _ l2 r2), h => mk_rt (mk_rt h.2.1 h.2.2.2.1) h.2.2.2.2
theorem rotR_rt : ∀ {t : IT}, t.Rt → (rotR t).Rt
  | .nil, h => h
  | .node _ _ _ _ .nil _, h => h
  | .node b s _ _ (.node c s2 _ _ l2 r2) r, h => mk_rt h.2.1.2.1 (mk_rt h.2.1.2.2 h.2.2)
theorem fixR_rt {t : IT} (h : t.Rt) : (fixR t).Rt := by
  unfold fixR; split
  · split
    · exact rotR_rt h
    · exact h
  · exact h
theorem fixL_rt {t : IT} (h : t.Rt) : (fixL t).Rt := by
  unfold fixL; split
  · split
    · exact rotL_rt h
    · exact h
  · exact h
/-- a turn looks at a node's parts alone. -/
theorem rotL_parts {b : Nat} {s : Sp} {h m : Int} {l r : IT} (hl : l.Rt) (hr : r.Rt) (hn : r ≠ .nil) : (rotL (.node b s h m l r)).Rt := by
  cases r with
  | nil => exact absurd rfl hn
  | node c s2 h2 m2 l2 r2 => exact mk_rt (mk_rt hl hr.2.1) hr.2.2
theorem rotR_parts {b : Nat} {s : Sp} {h m : Int} {l r : IT} (hl : l.Rt) (hr : r.Rt) (hn : l ≠ .nil) : (rotR (.node b s h m l r)).Rt := by
  cases l with
  | nil => exact absurd rfl hn
  | node c s2 h2 m2 l2 r2 => exact mk_rt hl.2.1 (mk_rt hl.2.2 hr)
theorem IT.Rt.ht0 : ∀ {t : IT}, t.Rt → 0 ≤ t.ht
  | .nil, _ => by simp [IT.ht]
  | .node _ _ _ _ l r, h => by
    have := IT.Rt.ht0 h.2.1; have := IT.Rt.ht0 h.2.2
    have e := h.1.1
    simp only [IT.ht]
    rw [e]; unfold htOf; omega
theorem IT.Rt.size : ∀ {t : IT}, t.Rt → t.ht ≤ t.ids.length
  | .nil, _ => by simp [IT.ht, IT.ids]
  | .node _ _ _ _ l r, h => by
    have := IT.Rt.size h.2.1; have := IT.Rt.size h.2.2
    have := IT.Rt.ht0 h.2.1; have := IT.Rt.ht0 h.2.2
    have e := h.1.1
    simp only [IT.ht]
    rw [e]; simp only [htOf, IT.ids, List.length_cons, List.length_append]; omega
theorem ht_pos {t : IT} (h : 0 < t.ht) : t ≠ .nil := fun e => by subst e; simp [IT.ht] at h
theorem rotR_ne {t : IT} (h : t ≠ .nil) : rotR t ≠ .nil := by unfold rotR; split <;> simp_all [mkN]
theorem rotL_ne {t : IT} (h : t ≠ .nil) : rotL t ≠ .nil := by unfold rotL; split <;> simp_all [mkN]
theorem fixR_ne {t : IT} (h : t ≠ .nil) : fixR t ≠ .nil := by
  unfold fixR; split
  · split
    · exact rotR_ne (by simp)
    · simp
  · exact h
theorem fixL_ne {t : IT} (h : t ≠ .nil) : fixL t ≠ .nil := by
  unfold fixL; split
  · split
    · exact rotL_ne (by simp)
    · simp
  · exact h
theorem reb_rt {b : Nat} {s : Sp} {h m : Int} {l r : IT} (hl : l.Rt) (hr : r.Rt) : (reb (.node b s h m l r)).Rt := by
  have a := hl.ht0
  have c := hr.ht0
  unfold reb
  simp only
  split
  · exact rotL_parts hl (fixR_rt hr) (fixR_ne (ht_pos (by omega)))
  · split
    · exact rotR_parts (fixL_rt hl) hr (fixL_ne (ht_pos (by omega)))
    · exact mk_rt hl hr
theorem rotL_list (t : IT) : (rotL t).list = t.list := by unfold rotL; split <;> simp [mkN, IT.list]
theorem rotR_list (t : IT) : (rotR t).list = t.list := by unfold rotR; split <;> simp [mkN, IT.list]
theorem fixR_list (t : IT) : (fixR t).list = t.list := by
  unfold fixR; split
  · split
    · exact rotR_list _
    · rfl
  · rfl
theorem fixL_list (t : IT) : (fixL t).list = t.list := by
  unfold fixL; split
  · split
    · exact rotL_list _
    · rfl
  · rfl
theorem reb_list (t : IT) : (reb t).list = t.list := by
  unfold reb; split
  · split
    · rw [rotL_list]; simp [IT.list, fixR_list]
    · split
      · rw [rotR_list]; simp [IT.list, fixL_list]
      · rfl
  · rfl
theorem rotL_ids (t : IT) : (rotL t).ids.Perm t.ids := by
  unfold rotL
  split
  · simp only [mkN, IT.ids]; rw [List.perm_iff_count]; intro a; simp only [List.count_cons, List.count_append]; omega
  · exact List.Perm.refl _
theorem rotR_ids (t : IT) : (rotR t).ids.Perm t.ids := by
  unfold rotR
  split
  · simp only [mkN, IT.ids]; rw [List.perm_iff_count]; intro a; simp only [List.count_cons, List.count_append]; omega
  · exact List.Perm.refl _
theorem fixR_ids (t : IT) : (fixR t).ids.Perm t.ids := by
  unfold fixR; split
  · split
    · exact rotR_ids _
    · exact List.Perm.refl _
  · exact List.Perm.refl _
theorem fixL_ids (t : IT) : (fixL t).ids.Perm t.ids := by
  unfold fixL; split
  · split
    · exact rotL_ids _
    · exact List.Perm.refl _
  · exact List.Perm.refl _
theorem reb_ids (t : IT) : (reb t).ids.Perm t.ids := by
  unfold reb; split
  · rename_i b s h m l r
    split
    · refine (rotL_ids _).trans ?_
      simp only [IT.ids]
      exact List.Perm.cons _ (List.Perm.append_left _ (fixR_ids r))
    · split
      · refine (rotR_ids _).trans ?_
        simp only [IT.ids]
        exact List.Perm.cons _ (List.Perm.append_right _ (fixL_ids l))
      · exact List.Perm.refl _
  · exact List.Perm.refl _
/-- Put (ow) and Add: nb the new node's block. -/
def IT.ins (s : Sp) (ow : Bool) (nb : Nat) : IT → IT
  | .nil => .node nb s 1 s.hi .nil .nil
  | .node b s2 h m l r => if s.lo < s2.lo then reb (.node b s2 h m (l.ins s ow nb) r) else if s2.lo < s.lo then reb (.node b s2 h m l (r.ins s ow nb)) else if ow then reb (.node b s h m l r) else .node b s2 h m l r
/-- the interval that begins at a place. -/
def IT.get (lo : Int) : IT → Option Sp
  | .nil => none
  | .node _ s _ _ l r => if lo < s.lo then l.get lo else if s.lo < lo then r.get lo else some s
def IT.least : IT → Nat × Sp
  | .nil => (0, ⟨0, 0, 0⟩)
  | .node b s _ _ .nil _ => (b, s)
  | .node _ _ _ _ (.node b s h m l r) _ => (IT.node b s h m l r).least
def IT.sz : IT → Nat
  | .nil => 0
  | .node _ _ _ _ l r => l.sz + r.sz + 1
/-- Remove. -/
def IT.rem (lo : Int) : IT → IT
  | .nil => .nil
  | .node b s h m l r =>
    if lo < s.lo then reb (.node b s h m (l.rem lo) r)
    else if s.lo < lo then reb (.node b s h m l (r.rem lo))
    else match l, r with
      | .nil, r => reb r
      | l, .nil => reb l
      | l, r => reb (.node b r.least.2 h m l (r.rem r.least.2.lo))
termination_by t => t.sz
decreasing_by all_goals (simp only [IT.sz]; omega)
def meet (s : Sp) (a b : Int) : Bool := decide (s.lo < b) && decide (a < s.hi)
/-- Overlaps, behind a row that is there. -/
def IT.over (a b : Int) : IT → List Sp → List Sp
  | .nil, acc => acc
  | .node _ s _ m l r, acc =>
    if m ≤ a then acc else
    let x := l.over a b acc
    let y := if decide (s.lo < b) && decide (a < s.hi) then x ++ [s] else x
    if b ≤ s.lo then y else r.over a b y
/-- rising by where they begin. -/
def Rises (xs : List Sp) : Prop := xs.Pairwise (fun a b => a.lo < b.lo)
def insL (s : Sp) (ow : Bool) : List Sp → List Sp
  | [] => [s]
  | x :: xs => if s.lo < x.lo then s :: x :: xs else if x.lo < s.lo then x :: insL s ow xs else if ow then s :: xs else x :: xs
def getL (lo : Int) (xs : List Sp) : Option Sp := xs.find? (fun x => x.lo == lo)
def remL (lo : Int) (xs : List Sp) : List Sp := xs.filter (fun x => !(x.lo == lo))
theorem rises_node {xs ys : List Sp} {s : Sp} (h : Rises (xs ++ s :: ys)) : Rises xs ∧ Rises ys ∧ (∀ x ∈ xs, x.lo < s.lo) ∧ (∀ y ∈ ys, s.lo < y.lo) := by
  unfold Rises at *
  rw [List.pairwise_append, List.pairwise_cons] at h
  exact ⟨h.1, h.2.1.2, fun x hx => h.2.2 x hx s (List.mem_cons_self ..), h.2.1.1⟩
theorem insL_left (s x : Sp) (ow : Bool) (ys : List Sp) (h : s.lo < x.lo) : ∀ xs, insL s ow (xs ++ x :: ys) = insL s ow xs ++ x :: ys
  | [] => by simp [insL, h]
  | z :: xs => by
    simp only [List.cons_append, insL, insL_left s x ow ys h xs]
    split
    · rfl
    · split
      · rfl
      · split <;> rfl
theorem insL_right (s x : Sp) (ow : Bool) (ys : List Sp) (h : x.lo < s.lo) : ∀ xs, (∀ z ∈ xs, z.lo < x.lo) → insL s ow (xs ++ x :: ys) = xs ++ x :: insL s ow ys
  | [], _ => by
    have : ¬ s.lo < x.lo := by omega
    simp [insL, h, this]
  | z :: xs, hz => by
    have h1 := hz z (List.mem_cons_self ..)
    simp only [List.cons_append, insL]
    rw [if_neg (by omega), if_pos (by omega), insL_right s x ow ys h xs (fun y hy => hz y (List.mem_cons_of_mem _ hy))]
theorem insL_at (s x : Sp) (ow : Bool) (ys : List Sp) (h : x.lo = s.lo) : ∀ xs, (∀ z ∈ xs, z.lo < x.lo) → insL s ow (xs ++ x :: ys) = xs ++ (if ow then s else x) :: ys
  | [], _ => by
    simp only [List.nil_append, insL]
    rw [if_neg (by omega), if_neg (by omega)]
    split <;> rfl
  | z :: xs, hz => by
    have h1 := hz z (List.mem_cons_self ..)
    simp only [List.cons_append, insL]
    rw [if_neg (by omega), if_pos (by omega), insL_at s x ow ys h xs (fun y hy => hz y (List.mem_cons_of_mem _ hy))]
theorem ins_list (s : Sp) (ow : Bool) (nb : Nat) : ∀ t : IT, Rises t.list → (t.ins s ow nb).list = insL s ow t.list
  | .nil, _ => rfl
  | .node b s2 h m l r, hr => by
    obtain ⟨r1, r2, r3, r4⟩ := rises_node hr
    unfold IT.ins
    simp only [IT.list]
    split
    · rename_i c
      rw [reb_list, insL_left _ _ _ _ c]; simp only [IT.list]; rw [ins_list s ow nb l r1]
    · split
      · rename_i c
        rw [reb_list, insL_right _ _ _ _ c _ r3]; simp only [IT.list]; rw [ins_list s ow nb r r2]
      · rw [insL_at _ _ _ _ (by omega) _ r3]
        cases ow
        · simp [IT.list]
        · simp only [if_true]; rw [reb_list]; simp [IT.list]
theorem mem_insL (s : Sp) (ow : Bool) : ∀ (xs : List Sp) (x : Sp), x ∈ insL s ow xs → x = s ∨ x ∈ xs
  | [], x, h => by simp [insL] at h; exact .inl h
  | y :: xs, x, h => by
    simp only [insL] at h
    split at h
    · simpa using h
    · split at h
      · rcases List.mem_cons.1 h with rfl | h
        · exact .inr (List.mem_cons_self ..)
        · exact (mem_insL s ow xs x h).imp id (List.mem_cons_of_mem _)
      · split at h
        · rcases List.mem_cons.1 h with rfl | h
          · exact .inl rfl
          · exact .inr (List.mem_cons_of_mem _ h)
        · exact .inr h
theorem insL_rises (s : Sp) (ow : Bool) : ∀ xs : List Sp, Rises xs → Rises (insL s ow xs)
  | [], _ => List.pairwise_singleton _ _
  | x :: xs, h => by
    unfold Rises at *
    rw [List.pairwise_cons] at h
    simp only [insL]
    split
    · rename_i c
      refine List.pairwise_cons.2 ⟨fun y hy => ?_, List.pairwise_cons.2 h⟩
      rcases List.mem_cons.1 hy with rfl | hy
      · exact c
      · have := h.1 y hy; omega
    · split
      · rename_i c
        refine List.pairwise_cons.2 ⟨fun y hy => ?_, insL_rises s ow xs h.2⟩
        rcases mem_insL s ow xs y hy with rfl | hy
        · exact c
        · exact h.1 y hy
      · split
        · refine List.pairwise_cons.2 ⟨fun y hy => ?_, h.2⟩
          have := h.1 y hy; omega
        · exact List.pairwise_cons.2 h
theorem ins_rt (s : Sp) (ow : Bool) (nb : Nat) : ∀ {t : IT}, t.Rt → (t.ins s ow nb).Rt
  | .nil, _ => by simp [IT.ins, IT.Rt, htOf, IT.ht, mxOf, IT.mxl]
  | .node b s2 h m l r, hr => by
    unfold IT.ins
    split
    · exact reb_rt (ins_rt s ow nb hr.2.1) hr.2.2
    · split
      · exact reb_rt hr.2.1 (ins_rt s ow nb hr.2.2)
      · split
        · exact reb_rt hr.2.1 hr.2.2
        · exact hr
theorem ins_ids (s : Sp) (ow : Bool) (nb : Nat) : ∀ t : IT, (t.ins s ow nb).ids.Perm t.ids ∨ (t.ins s ow nb).ids.Perm (nb :: t.ids)
  | .nil => .inr (List.Perm.refl _)
  | .node b k2 v2 h l r => by
    unfold IT.ins
    split
    · rcases ins_ids s ow nb l with hp | hp
      · refine .inl ((reb_ids _).trans ?_); simp only [IT.ids]; exact List.Perm.cons _ (List.Perm.append_right _ hp)
      · refine .inr ((reb_ids _).trans ?_); simp only [IT.ids]
        exact (List.Perm.cons _ (List.Perm.append_right _ hp)).trans (List.Perm.swap _ _ _)
    · split
      · rcases ins_ids s ow nb r with hp | hp
        · refine .inl ((reb_ids _).trans ?_); simp only [IT.ids]; exact List.Perm.cons _ (List.Perm.append_left _ hp)
        · refine .inr ((reb_ids _).trans ?_); simp only [IT.ids]
          exact (List.Perm.cons _ ((List.Perm.append_left _ hp).trans List.perm_middle)).trans (List.Perm.swap _ _ _)
      · split
        · exact .inl (reb_ids _)
        · exact .inl (List.Perm.refl _)
theorem find_none {xs : List Sp} {lo : Int} (h : ∀ x ∈ xs, x.lo ≠ lo) : getL lo xs = none := by
  unfold getL
  rw [List.find?_eq_none]
  intro x hx
  simpa using h x hx
theorem get_list (lo : Int) : ∀ t : IT, Rises t.list → t.get lo = getL lo t.list
  | .nil, _ => rfl
  | .node b s h m l r, hr => by
    obtain ⟨r1, r2, r3, r4⟩ := rises_node hr
    unfold IT.get
    simp only [IT.list]
    unfold getL
    rw [List.find?_append, List.find?_cons]
    split
    · rename_i c
      rw [get_list lo l r1]
      have e : (s.lo == lo) = false := by rw [beq_eq_false_iff_ne]; omega
      have n : List.find? (fun x => x.lo == lo) r.list = none := find_none (fun x hx => by have := r4 x hx; omega)
      rw [e]
      simp only [n]
      unfold getL
      simp
    · have n : List.find? (fun x => x.lo == lo) l.list = none := find_none (fun x hx => by have := r3 x hx; omega)
      rw [n]
      split
      · rename_i c
        have e : (s.lo == lo) = false := by rw [beq_eq_false_iff_ne]; omega
        rw [e, get_list lo r r2]
        rfl
      · have e : (s.lo == lo) = true := by rw [beq_iff_eq]; omega
        rw [e]
        rfl
theorem sz_ids : ∀ t : IT, t.sz = t.ids.length
  | .nil => rfl
  | .node _ _ _ _ l r => by simp [IT.sz, IT.ids, sz_ids l, sz_ids r]
theorem list_len : ∀ t : IT, t.list.length = t.ids.length
  | .nil => rfl
  | .node _ _ _ _ l r => by simp [IT.list, IT.ids, list_len l, list_len r]; omega
theorem least_list : ∀ {t : IT}, t ≠ .nil → ∃ xs, t.list = t.least.2 :: xs
  | .nil, h => absurd rfl h
  | .node _ s _ _ .nil r, _ => ⟨r.list, rfl⟩
  | .node _ _ _ _ (.node b s h m l r) r2, _ => by
    obtain ⟨xs, e⟩ := least_list (t := .node b s h m l r) (by simp)
    exact ⟨xs ++ _, by rw [IT.list, e]; rfl⟩
theorem rem_node (lo : Int) (b : Nat) (s : Sp) (h m : Int) (l r : IT) : (IT.node b s h m l r).rem lo = if lo < s.lo then reb (.node b s h m (l.rem lo) r) else if s.lo < lo then reb (.node b s h m l (r.rem lo)) else
    match l, r with | .nil, r => reb r | l, .nil => reb l | l, r => reb (.node b r.least.2 h m l (r.rem r.least.2.lo)) := by
  rw [IT.rem.eq_def]
theorem remL_none {xs : List Sp} {lo : Int} (h : ∀ x ∈ xs, x.lo ≠ lo) : remL lo xs = xs := by
  unfold remL
  rw [List.filter_eq_self]
  intro x hx
  simpa using h x hx
theorem remL_append (lo : Int) (xs ys : List Sp) : remL lo (xs ++ ys) = remL lo xs ++ remL lo ys := List.filter_append ..
theorem remL_cons (lo : Int) (x : Sp) (ys : List Sp) : remL lo (x :: ys) = if x.lo = lo then remL lo ys else x :: remL lo ys := by
  unfold remL
  rw [List.filter_cons]
  by_cases h : x.lo = lo <;> simp [h]
theorem rem_list (n : Nat) : ∀ (t : IT) (lo : Int), t.sz ≤ n → Rises t.list → (t.rem lo).list = remL lo t.list := by
  induction n with
  | zero =>
    intro t lo hs _
    cases t with
    | nil => rw [IT.rem.eq_def]; rfl
    | node => simp [IT.sz] at hs
  | succ n ih =>
    intro t lo hs hr
    cases t with
    | nil => rw [IT.rem.eq_def]; rfl
    | node b s h m l r =>
      obtain ⟨r1, r2, r3, r4⟩ := rises_node hr
      simp only [IT.sz] at hs
      rw [rem_node]
      simp only [IT.list]
      rw [remL_append, remL_cons]
      split
      · rename_i c
        rw [reb_list, if_neg (by omega), remL_none (xs := r.list) (fun x hx => by have := r4 x hx; omega)]
        simp only [IT.list]; rw [ih l lo (by omega) r1]
      · rename_i c0
        rw [remL_none (xs := l.list) (fun x hx => by have := r3 x hx; omega)]
        split
        · rename_i c
          rw [reb_list, if_neg (by omega)]
          simp only [IT.list]; rw [ih r lo (by omega) r2]
        · rw [if_pos (by omega), remL_none (xs := r.list) (fun x hx => by have := r4 x hx; omega)]
          split
          · rw [reb_list]; rfl
          · rw [reb_list]; simp [IT.list]
          · rename_i hl hr'
            rw [reb_list]
            simp only [IT.list]
            obtain ⟨xs, e⟩ := least_list (t := r) (fun e => hr' e)
            rw [ih r _ (by omega) r2, e, remL_cons, if_pos rfl]
            have hx : Rises (r.least.2 :: xs) := by rw [← e]; exact r2
            rw [remL_none (fun x hx' => by have := (List.pairwise_cons.1 hx).1 x hx'; omega)]
theorem remL_rises {lo : Int} {xs : List Sp} (h : Rises xs) : Rises (remL lo xs) := h.sublist (List.filter_sublist ..)
theorem rt_reb {t : IT} (h : t.Rt) : (reb t).Rt := by
  cases t with
  | nil => exact h
  | node b s h' m l r => exact reb_rt h.2.1 h.2.2
theorem rem_rt (n : Nat) : ∀ (t : IT) (lo : Int), t.sz ≤ n → t.Rt → (t.rem lo).Rt := by
  induction n with
  | zero =>
    intro t lo hs h
    cases t with
    | nil => rw [IT.rem.eq_def]; trivial
    | node => simp [IT.sz] at hs
  | succ n ih =>
    intro t lo hs hr
    cases t with
    | nil => rw [IT.rem.eq_def]; trivial
    | node b s h m l r =>
      simp only [IT.sz] at hs
      rw [rem_node]
      split
      · exact reb_rt (ih l lo (by omega) hr.2.1) hr.2.2
      · split
        · exact reb_rt hr.2.1 (ih r lo (by omega) hr.2.2)
        · split
          · exact rt_reb hr.2.2
          · exact rt_reb hr.2.1
          · exact reb_rt hr.2.1 (ih _ _ (by omega) hr.2.2)
def remTop (b : Nat) (h m : Int) (l r : IT) : IT := match l, r with
  | .nil, r => r
  | l, .nil => l
  | l, r => .node b r.least.2 h m l (r.rem r.least.2.lo)
theorem rem_eq (lo : Int) (b : Nat) (s : Sp) (h m : Int) (l r : IT) (c1 : ¬ lo < s.lo) (c2 : ¬ s.lo < lo) : (IT.node b s h m l r).rem lo = reb (remTop b h m l r) := by
  rw [rem_node, if_neg c1, if_neg c2]
  unfold remTop
  split <;> simp
theorem rem_ids (n : Nat) : ∀ (t : IT) (lo : Int), t.sz ≤ n → ∃ L, (L ++ (t.rem lo).ids).Perm t.ids := by
  induction n with
  | zero =>
    intro t lo hs
    cases t with
    | nil => rw [IT.rem.eq_def]; exact ⟨[], List.Perm.refl _⟩
    | node => simp [IT.sz] at hs
  | succ n ih =>
    intro t lo hs
    cases t with
    | nil => rw [IT.rem.eq_def]; exact ⟨[], List.Perm.refl _⟩
    | node b s h m l r =>
      simp only [IT.sz] at hs
      rw [rem_node]
      have pr : ∀ {L : List Nat} {r' : IT}, (L ++ r'.ids).Perm r.ids → ∀ s', (L ++ (IT.node b s' h m l r').ids).Perm (b :: (l.ids ++ r.ids)) := by
        intro L r' hp s'
        simp only [IT.ids]
        rw [List.perm_iff_count] at hp ⊢
        intro a
        have := hp a
        simp only [List.count_append, List.count_cons] at this ⊢
        omega
      split
      · obtain ⟨L, hp⟩ := ih l lo (by omega)
        refine ⟨L, ((reb_ids _).append_left L).trans ?_⟩
        simp only [IT.ids]
        rw [List.perm_iff_count] at hp ⊢
        intro a
        have := hp a
        simp only [List.count_append, List.count_cons] at this ⊢
        omega
      · split
        · obtain ⟨L, hp⟩ := ih r lo (by omega)
          exact ⟨L, ((reb_ids _).append_left L).trans (pr hp s)⟩
        · split
          · refine ⟨[b], ((reb_ids _).append_left _).trans ?_⟩
            simp [IT.ids]
          · refine ⟨[b], ((reb_ids _).append_left _).trans ?_⟩
            simp [IT.ids]
          · obtain ⟨L, hp⟩ := ih r r.least.2.lo (by omega)
            exact ⟨L, ((reb_ids _).append_left L).trans (pr hp _)⟩
theorem rem_sub {t : IT} {lo : Int} (hn : t.ids.Nodup) : (t.rem lo).ids.Nodup ∧ (∀ i ∈ (t.rem lo).ids, i ∈ t.ids) ∧ (t.rem lo).ids.length ≤ t.ids.length := by
  obtain ⟨L, hp⟩ := rem_ids t.sz t lo (Nat.le_refl _)
  refine ⟨(List.nodup_append.1 (hp.nodup_iff.2 hn)).2.1, fun i hi => hp.mem_iff.1 (List.mem_append_right _ hi), ?_⟩
  have := hp.length_eq
  rw [List.length_append] at this
  omega
/-- the greatest end of a tree's intervals. -/
theorem mxl_le {t : IT} {m a : Int} (h : t.mxl m ≤ a) : m ≤ a := by cases t <;> simp only [IT.mxl] at h <;> omega
theorem max_bound : ∀ {t : IT}, t.Rt → ∀ {a m : Int}, t.mxl m ≤ a → ∀ s ∈ t.list, s.hi ≤ a
  | .nil, _, _, _, _, s, hs => by simp [IT.list] at hs
  | .node b s0 h mx l r, hr, a, m, hm, s, hs => by
    simp only [IT.mxl] at hm
    have e := hr.1.2
    unfold mxOf at e
    have h1 : l.mxl (r.mxl s0.hi) ≤ a := by omega
    have h2 := mxl_le h1
    have h3 := mxl_le h2
    simp only [IT.list, List.mem_append, List.mem_cons] at hs
    rcases hs with hs | rfl | hs
    · exact max_bound hr.2.1 h1 s hs
    · exact h3
    · exact max_bound hr.2.2 h2 s hs
theorem over_list (a b : Int) : ∀ (t : IT) (acc : List Sp), t.Rt → Rises t.list → t.over a b acc = acc ++ t.list.filter (fun s => meet s a b)
  | .nil, acc, _, _ => by simp [IT.over, IT.list]
  | .node bb s h m l r, acc, hr, hs => by
    obtain ⟨r1, r2, r3, r4⟩ := rises_node hs
    unfold IT.over
    simp only [IT.list, List.filter_append, List.filter_cons]
    split
    · rename_i c
      have hb := max_bound (t := .node bb s h m l r) hr (a := a) (m := m) (by simp only [IT.mxl]; omega)
      have n1 : l.list.filter (fun s => meet s a b) = [] := by
        rw [List.filter_eq_nil_iff]; intro x hx
        have := hb x (by simp [IT.list, hx]); simp [meet]; omega
      have n2 : r.list.filter (fun s => meet s a b) = [] := by
        rw [List.filter_eq_nil_iff]; intro x hx
        have := hb x (by simp [IT.list, hx]); simp [meet]; omega
      have n3 : meet s a b = false := by
        have := hb s (by simp [IT.list]); simp [meet]; omega
      rw [n1, n2, n3]; simp
    · rw [over_list a b l acc hr.2.1 r1]
      have e : (decide (s.lo < b) && decide (a < s.hi)) = meet s a b := rfl
      rw [e]
      split
      · rename_i c
        have n2 : r.list.filter (fun s => meet s a b) = [] := by
          rw [List.filter_eq_nil_iff]; intro x hx
          have := r4 x hx; simp [meet]; omega
        rw [n2]
        split <;> simp
      · rw [over_list a b r _ hr.2.2 r2]
        split <;> simp
end Go.Proofs.Ytomclflknjkhfaa.ItP
