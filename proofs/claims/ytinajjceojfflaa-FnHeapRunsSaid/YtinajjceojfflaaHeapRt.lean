/- spec.HeapRight of what a heap's script tells: it is right. -/
import Derived.Test.YtinajjceojfflaaHeapA
import Derived.Test.YtinajjceojfflaaHeapX2
namespace Go.Proofs.Ytinajjceojfflaa
open Go.RowKit HeapP PFnHeapRuns Go.Proofs.YtinajjceojfflaaW.PrintWords

def toS (a : StepD) : S28 := ⟨a.on, a.act, a.key, a.val⟩
def toSeen (p : Int × Bool) : S31 := ⟨p.1, p.2, [], []⟩
theorem rank_f (ts : List Int) (a : Int) (h : ts.length ≤ 4611686018427387903) : spec_Rank.f ts a = some (rankOf ts a) := by
  unfold spec_Rank.f rankOf
  by_cases e : ts = []
  · subst e; simp
  · have hl : 0 < ts.length := List.length_pos_iff.2 e
    rw [if_neg (by omega), if_neg e, mod_math _ _ (by omega) (by omega)]
    have h0 : 0 ≤ a % (ts.length : Int) := Int.emod_nonneg _ (by omega)
    have h1 : a % (ts.length : Int) < (ts.length : Int) := Int.emod_lt_of_pos _ (by omega)
    rw [if_pos h0, if_pos h1]
    rfl
theorem cut_f (xs : List Int) (i : Nat) (hi : i < xs.length) (hl : xs.length ≤ 10000000000) : spec_cut.f xs i = some (xs.eraseIdx i) := by
  unfold spec_cut.f
  have e : wrap64 ((i : Int) + 1) = ((i + 1 : Nat) : Int) := by unfold wrap64; omega
  simp only [e, Option.bind_some, Int.toNat_natCast, List.length_nil, List.nil_append]
  have e1 : (i : Int) ≤ xs.length := by omega
  have e2 : ((i + 1 : Nat) : Int) ≤ xs.length := by omega
  rw [if_pos (by omega), if_pos e1, if_pos (by simp; omega), if_pos (by omega), if_pos e2, if_pos (by simp; omega), List.eraseIdx_eq_take_drop_succ]
theorem rd_at {xs : List Int} {i : Nat} (h : i < xs.length) : rd xs (i : Int) = xs[i] := by
  show xs.getD (i : Int).toNat 0 = _
  rw [Int.toNat_natCast, List.getD_eq_getElem?_getD, List.getElem?_eq_getElem h]; rfl
theorem rdS_at {l : List StepD} {i : Nat} {a : StepD} (h : l[i]? = some a) : rd_T28 (l.map toS) (i : Int) = toS a := by
  unfold rd_T28
  rw [Int.toNat_natCast, List.getD_eq_getElem?_getD, List.getElem?_map, h]; rfl
theorem rdSeen_at {l : List (Int × Bool)} {i : Nat} {a : Int × Bool} (h : l[i]? = some a) : rd_T31 (l.map toSeen) (i : Int) = toSeen a := by
  unfold rd_T31
  rw [Int.toNat_natCast, List.getD_eq_getElem?_getD, List.getElem?_map, h]; rfl
theorem wr1 {i : Nat} (h : i ≤ 100000000000) : wrap64 ((i : Int) + 1) = ((i + 1 : Nat) : Int) := by unfold wrap64; omega
theorem erase_perm : ∀ (l : List Int) (i : Nat) (h : i < l.length), (l[i] :: l.eraseIdx i).Perm l
  | a :: l, 0, _ => by simp
  | a :: l, i + 1, h => by
    simp only [List.getElem_cons_succ, List.eraseIdx_cons_succ]
    exact (List.Perm.swap a _ _).trans ((erase_perm l i (by simpa using h)).cons a)
/-- the search in the bag. -/
theorem l1_go (ts : List Int) (ht : ts.length ≤ 4611686018427387903) (x2 : List S28) (x3 : List S31) (bag : List Int) (hb : bag.length ≤ 10000000000) (x : Nat) (hx : x < x3.length) (N : Int) (hN : (rd_T31 x3 x).f0 = N) (hok : (rd_T31 x3 x).f1 = true)
    (hmem : N ∈ bag) (hmin : ∀ y ∈ bag, rankOf ts N ≤ rankOf ts y) (hend : ∀ at' : Nat, (h : at' < bag.length) → bag[at'] = N → ∃ k, spec_HeapRight.j3 k ts x2 x3 bag x at' false = some true) :
    ∀ (n j : Nat) (at' : Int), j + n = bag.length → ((at' < 0 ∧ ∀ i : Nat, (h : i < bag.length) → i < j → bag[i] ≠ N) ∨ ∃ m : Nat, at' = m ∧ ∃ h : m < bag.length, bag[m] = N) → ∃ k, spec_HeapRight.l1 k ts x2 x3 bag x at' j = some true
  | 0, j, at', hj, hat => by
    rcases hat with ⟨h0, h1⟩ | ⟨m, rfl, h1, h2⟩
    · obtain ⟨i, hi, e⟩ := List.getElem_of_mem hmem
      exact absurd e (h1 i hi (by omega))
    · obtain ⟨k, hk⟩ := hend m h1 h2
      refine ⟨k + 1, ?_⟩
      unfold spec_HeapRight.l1
      rw [if_neg (by omega), if_neg (by omega), if_pos (by omega), if_pos (by omega), hok]
      exact hk
  | n + 1, j, at', hj, hat => by
    have hlt : j < bag.length := by omega
    have hr := hmin _ (List.getElem_mem hlt)
    have step : ∀ at'' : Int, ((at'' < 0 ∧ ∀ i : Nat, (h : i < bag.length) → i < j + 1 → bag[i] ≠ N) ∨ ∃ m : Nat, at'' = m ∧ ∃ h : m < bag.length, bag[m] = N) → ∃ k, spec_HeapRight.l1 k ts x2 x3 bag x at'' ((j + 1 : Nat) : Int) = some true := fun at'' h => l1_go ts ht x2 x3 bag hb x hx N hN hok hmem hmin hend n (j + 1) at'' (by omega) h
    by_cases e : bag[j] = N
    · obtain ⟨k, hk⟩ := step (j : Int) (.inr ⟨j, rfl, hlt, e⟩)
      refine ⟨k + 1, ?_⟩
      unfold spec_HeapRight.l1
      rw [if_pos (by omega), if_pos (by omega), rank_f _ _ ht, Option.bind_some, if_pos (by omega), if_pos (by omega), rank_f _ _ ht, Option.bind_some, rd_at hlt, hN, if_neg (by omega), if_pos e, wr1 (by omega)]
      exact hk
    · obtain ⟨k, hk⟩ := step at' (by
        rcases hat with ⟨h0, h1⟩ | h
        · refine .inl ⟨h0, fun i hi hij => ?_⟩
          by_cases e2 : i = j
          · subst e2; exact e
          · exact h1 i hi (by omega)
        · exact .inr h)
      refine ⟨k + 1, ?_⟩
      unfold spec_HeapRight.l1
      rw [if_pos (by omega), if_pos (by omega), rank_f _ _ ht, Option.bind_some, if_pos (by omega), if_pos (by omega), rank_f _ _ ht, Option.bind_some, rd_at hlt, hN, if_neg (by omega), if_neg e, wr1 (by omega)]
      exact hk
/-- from step i on. -/
theorem l0_go (ts : List Int) (ht : ts.length ≤ 4611686018427387903) (l : List StepD) (seen : List (Int × Bool)) (hs : seen.length = l.length) (hll : l.length ≤ 4000000000) :
    ∀ (n i : Nat) (xs bag : List Int), i + n = l.length → xs.Perm bag → HeapFrom (rankOf ts) 0 xs → bag.length + n ≤ 10000000000 → seen.drop i = (runH ts xs (l.drop i)).2 → ∃ k, spec_HeapRight.l0 k ts (l.map toS) (seen.map toSeen) bag i = some true
  | 0, i, xs, bag, hi, hp, hH, hbn, hd => by
    refine ⟨1, ?_⟩
    unfold spec_HeapRight.l0
    rw [if_neg (by simp; omega)]
  | n + 1, i, xs, bag, hi, hp, hH, hbn, hd => by
    have hlt : i < l.length := by omega
    obtain ⟨a, ha⟩ : ∃ a, l[i]? = some a := ⟨_, List.getElem?_eq_getElem hlt⟩
    have hld : l.drop i = a :: l.drop (i + 1) := by
      rw [List.drop_eq_getElem_cons hlt]
      rw [List.getElem?_eq_getElem hlt] at ha
      cases ha; rfl
    have hslt : i < seen.length := by omega
    rw [hld, List.drop_eq_getElem_cons hslt] at hd
    simp only [runH, List.cons.injEq] at hd
    obtain ⟨hd1, hd2⟩ := hd
    have hse : seen[i]? = some (stepH ts a xs).2 := by rw [List.getElem?_eq_getElem hslt, hd1]
    have rec_ := l0_go ts ht l seen hs hll n (i + 1) (stepH ts a xs).1
    have hxlen : xs.length = bag.length := hp.length_eq
    have E1 := rdS_at ha
    have E2 := rdSeen_at hse
    have w1 := wr1 (i := i) (by omega)
    have hltS : (i : Int) < ((l.map toS).length : Int) := by rw [List.length_map]; omega
    have hltT : (i : Int) < ((seen.map toSeen).length : Int) := by rw [List.length_map]; omega
    obtain ⟨on, act, key, val⟩ := a
    have A1 : (rd_T28 (l.map toS) (i : Int)).f1 = act := by rw [E1]; rfl
    have A2 : (rd_T28 (l.map toS) (i : Int)).f2 = key := by rw [E1]; rfl
    have hi0 : (0 : Int) ≤ (i : Int) := by omega
    by_cases c0 : act = 0
    · have es : stepH ts ⟨on, act, key, val⟩ xs = (pushP ts xs key, (0, false)) := if_pos c0
      rw [es] at rec_ hd2
      obtain ⟨k, hk⟩ := rec_ (bag ++ [key]) (by omega) ((push_perm ts xs key).trans (hp.append_right _)) (push_heap ts xs key hH) (by simp; omega) hd2
      refine ⟨k + 1, ?_⟩
      unfold spec_HeapRight.l0
      rw [if_pos hltS, if_pos hi0, A1, A2, if_pos c0, if_pos (by omega), w1]
      exact hk
    · by_cases c12 : act = 1 ∨ act = 2
      · -- what is told of the least one
        have et : (stepH ts ⟨on, act, key, val⟩ xs).2 = peekP xs := by
          unfold stepH
          rcases c12 with rfl | rfl <;> simp
        have J : ∃ k, spec_HeapRight.j1 k ts (l.map toS) (seen.map toSeen) bag i act true = some true := by
          by_cases he : xs = []
          · have hb0 : bag = [] := by subst he; exact List.Perm.eq_nil hp.symm
            have e1 : (stepH ts ⟨on, act, key, val⟩ xs).1 = xs := by
              unfold stepH
              rcases c12 with rfl | rfl <;> simp [he]
            rw [e1] at rec_ hd2
            obtain ⟨k, hk⟩ := rec_ bag (by omega) hp hH (by omega) hd2
            refine ⟨k + 1, ?_⟩
            unfold spec_HeapRight.j1
            rw [if_pos rfl, if_pos (by subst hb0; rfl), if_pos hi0, if_pos hltT, E2, et]
            have ep : peekP xs = (0, false) := if_pos he
            rw [ep, if_neg (by simp [toSeen]), if_pos (show (toSeen (0, false)).f0 = 0 from rfl), w1]
            exact hk
          · have ep := peek_of he
            have hxpos : 0 < xs.length := List.length_pos_iff.2 he
            have hm : getI xs 0 ∈ bag := by
              rw [← hp.mem_iff, getI_at hxpos]; exact List.getElem_mem _
            have hl1 := l1_go ts ht (l.map toS) (seen.map toSeen) bag (by omega) i (by rw [List.length_map]; omega) (getI xs 0) (by rw [E2, et, ep]; rfl) (by rw [E2, et, ep]; rfl) hm (fun y hy => root_le hH (hp.mem_iff.2 hy)) (by
              intro m hm1 hm2
              rcases c12 with rfl | rfl
              · have e1 : (stepH ts ⟨on, 1, key, val⟩ xs).1 = popP ts xs := by unfold stepH; simp [he]
                rw [e1] at rec_ hd2
                have hq : (popP ts xs).Perm (bag.eraseIdx m) := by
                  have q1 := (pop_perm ts xs he).trans hp
                  have q2 := erase_perm bag m hm1
                  rw [hm2] at q2
                  exact List.Perm.cons_inv (q1.trans q2.symm)
                obtain ⟨k, hk⟩ := rec_ (bag.eraseIdx m) (by omega) hq (pop_heap ts xs hH) (by rw [List.length_eraseIdx]; split <;> omega) hd2
                refine ⟨k + 1, ?_⟩
                unfold spec_HeapRight.j3
                rw [if_neg (by simp), if_pos hi0, if_pos hltS, A1, if_pos rfl, cut_f bag m hm1 (by omega), Option.bind_some, w1]
                exact hk
              · have e1 : (stepH ts ⟨on, 2, key, val⟩ xs).1 = xs := by unfold stepH; simp
                rw [e1] at rec_ hd2
                obtain ⟨k, hk⟩ := rec_ bag (by omega) hp hH (by omega) hd2
                refine ⟨k + 1, ?_⟩
                unfold spec_HeapRight.j3
                rw [if_neg (by simp), if_pos hi0, if_pos hltS, A1, if_neg (by decide), w1]
                exact hk) bag.length 0 (-1) (by omega) (.inl ⟨by omega, fun _ _ h => by omega⟩)
            obtain ⟨k, hk⟩ := hl1
            refine ⟨k + 1, ?_⟩
            unfold spec_HeapRight.j1
            rw [if_pos rfl, if_neg (by omega)]
            exact hk
        obtain ⟨k, hk⟩ := J
        refine ⟨k + 1, ?_⟩
        unfold spec_HeapRight.l0
        rw [if_pos hltS, if_pos hi0, A1, if_neg c0]
        rcases c12 with rfl | rfl
        · rw [if_pos rfl]; exact hk
        · rw [if_neg (by decide)]; exact hk
      · have c1 : act ≠ 1 := fun h => c12 (.inl h)
        have c2 : act ≠ 2 := fun h => c12 (.inr h)
        have e1 : (stepH ts ⟨on, act, key, val⟩ xs).1 = xs := by unfold stepH; simp only [c0, c1, c2, if_false]; split <;> rfl
        rw [e1] at rec_ hd2
        obtain ⟨k, hk⟩ := rec_ bag (by omega) hp hH (by omega) hd2
        refine ⟨k + 1 + 1, ?_⟩
        unfold spec_HeapRight.l0
        rw [if_pos hltS, if_pos hi0, A1, if_neg c0, if_neg c1]
        unfold spec_HeapRight.j1
        rw [if_neg (by simp; omega)]
        by_cases c3 : act = 3
        · have et : (stepH ts ⟨on, act, key, val⟩ xs).2 = ((xs.length : Int), false) := by unfold stepH; simp [c3]
          rw [if_pos c3, if_pos hi0, if_pos hltT, E2, et, if_pos (show (toSeen ((xs.length : Int), false)).f0 = (bag.length : Int) from (by show (xs.length : Int) = _; omega)), w1]
          exact hk
        · rw [if_neg c3, w1]
          exact hk
theorem right_f (ts first : List Int) (how : Int) (l : List StepD) (ht : ts.length ≤ 4611686018427387903) (hf : first.length ≤ 4000000000) (hll : l.length ≤ 4000000000) :
    ∃ k, spec_HeapRight.f k ts first (l.map toS) ((runH ts (heapOfP ts how first) l).2.map toSeen) = some true := by
  have hH := heapOf_right ts how first
  obtain ⟨k, hk⟩ := l0_go ts ht l (runH ts (heapOfP ts how first) l).2 (runH_len ts l _) hll l.length 0 (heapOfP ts how first) first (by omega) hH.2 hH.1 (by omega) rfl
  refine ⟨k, ?_⟩
  unfold spec_HeapRight.f
  rw [if_pos (by simp [runH_len]), Option.bind_some, List.nil_append, List.length_nil, if_pos (by omega)]
  exact hk
end Go.Proofs.Ytinajjceojfflaa
