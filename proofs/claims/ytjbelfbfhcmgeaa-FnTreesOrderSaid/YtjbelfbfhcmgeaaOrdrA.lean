/- keys that are put in another order: trees of either kind have the same keys and values; no program in sight. spec.Unlike, laws.treeTurned: the walks. laws.treeTurned: the walk. -/
import Derived.Test.YtjbelfbfhcmgeaaRise0
import Derived.Test.YtjbelfbfhcmgeaaBtL
import Derived.Deep.Cut
namespace Go.Proofs.Ytjbelfbfhcmgeaa.Kp
open Om Bt

theorem putL_comm {r : Int → Int} {k1 v1 k2 v2 : Int} (h : r k1 ≠ r k2) : ∀ m : R, putL r k1 v1 (putL r k2 v2 m) = putL r k2 v2 (putL r k1 v1 m)
  | [] => by
    simp only [putL]
    rcases Int.lt_or_gt_of_ne h with c | c
    · simp [c, show ¬ r k2 < r k1 by omega]
    · simp [c, show ¬ r k1 < r k2 by omega]
  | x :: m => by
    have ih := putL_comm h m (v1 := v1) (v2 := v2)
    simp only [putL]
    by_cases a1 : r k1 < r x.1
    · by_cases a2 : r k2 < r x.1
      · rw [if_pos a1, if_pos a2]
        simp only [putL]
        rcases Int.lt_or_gt_of_ne h with c | c
        · simp [c, a2, show ¬ r k2 < r k1 by omega]
        · simp [c, a1, show ¬ r k1 < r k2 by omega]
      · rw [if_pos a1, if_neg a2]
        by_cases b2 : r x.1 < r k2
        · rw [if_pos b2]
          simp [putL, a1, a2, b2, show ¬ r k2 < r k1 by omega, show r k1 < r k2 by omega]
        · rw [if_neg b2]
          simp [putL, a1, a2, b2, show ¬ r k2 < r k1 by omega, show r k1 < r k2 by omega]
    · rw [if_neg a1]
      by_cases b1 : r x.1 < r k1
      · rw [if_pos b1]
        by_cases a2 : r k2 < r x.1
        · rw [if_pos a2]
          simp [putL, a1, a2, b1, show ¬ r k1 < r k2 by omega, show r k2 < r k1 by omega]
        · rw [if_neg a2]
          by_cases b2 : r x.1 < r k2
          · rw [if_pos b2]
            simp [putL, a1, a2, b1, b2, ih]
          · rw [if_neg b2]
            simp [putL, a1, a2, b1, b2]
      · rw [if_neg b1]
        by_cases a2 : r k2 < r x.1
        · rw [if_pos a2]
          simp [putL, a1, a2, b1, show ¬ r k1 < r k2 by omega, show r k2 < r k1 by omega]
        · rw [if_neg a2]
          by_cases b2 : r x.1 < r k2
          · rw [if_pos b2]
            simp [putL, a1, a2, b1, b2]
          · exact absurd (show r k1 = r k2 by omega) h
/-- steps that put keys that are not alike. -/
def Puts (r : Int → Int) (l : List ActD) : Prop := (∀ a ∈ l, a.act = 0) ∧ l.Pairwise (fun a b => r a.key ≠ r b.key)
theorem mapS_put {r : Int → Int} {a : ActD} {m : R} (h : a.act = 0) : mapS r a m = putL r a.key a.val m := by unfold mapS; rw [if_pos h]
theorem mapR_perm {r : Int → Int} {l l' : List ActD} (h : l.Perm l') : ∀ m, Puts r l → mapR r l m = mapR r l' m := by
  induction h with
  | nil => intro _ _; rfl
  | cons a _ ih =>
    intro m hp
    exact ih _ ⟨fun b hb => hp.1 b (List.mem_cons_of_mem _ hb), (List.pairwise_cons.1 hp.2).2⟩
  | swap a b l =>
    intro m hp
    have ha := hp.1 a (by simp)
    have hb := hp.1 b (by simp)
    have hne := (List.pairwise_cons.1 hp.2).1 a (List.mem_cons_self ..)
    show mapR r l (mapS r a (mapS r b m)) = mapR r l (mapS r b (mapS r a m))
    rw [mapS_put ha, mapS_put hb, mapS_put ha, mapS_put hb, putL_comm (Ne.symm hne)]
  | trans h1 _ ih1 ih2 =>
    intro m hp
    rw [ih1 m hp]
    exact ih2 m ⟨fun a ha => hp.1 a (h1.mem_iff.2 ha), (h1.pairwise_iff (fun h => Ne.symm h)).1 hp.2⟩
theorem puts_perm {r : Int → Int} {l l' : List ActD} (h : l.Perm l') (hp : Puts r l) : Puts r l' :=
  ⟨fun a ha => hp.1 a (h.mem_iff.2 ha), (h.pairwise_iff (fun h => Ne.symm h)).1 hp.2⟩
theorem putL_len_eq {r : Int → Int} {k v : Int} : ∀ m : R, (∀ x ∈ m, r x.1 ≠ r k) → (putL r k v m).length = m.length + 1
  | [], _ => rfl
  | x :: m, h => by
    have hx := h x (List.mem_cons_self ..)
    unfold putL
    by_cases a1 : r k < r x.1
    · rw [if_pos a1]; simp
    · rw [if_neg a1, if_pos (by omega)]
      simp [putL_len_eq m (fun y hy => h y (List.mem_cons_of_mem _ hy))]
theorem mapR_puts_len {r : Int → Int} : ∀ (l : List ActD) (m : R), Puts r l → (∀ x ∈ m, ∀ a ∈ l, r x.1 ≠ r a.key) → (mapR r l m).length = m.length + l.length
  | [], m, _, _ => rfl
  | a :: l, m, hp, hm => by
    show (mapR r l (mapS r a m)).length = _
    have ha := hp.1 a (by simp)
    have hl : Puts r l := ⟨fun b hb => hp.1 b (List.mem_cons_of_mem _ hb), (List.pairwise_cons.1 hp.2).2⟩
    rw [mapS_put ha, mapR_puts_len l _ hl, putL_len_eq m (fun x hx => hm x hx a (by simp))]
    · simp; omega
    · intro x hx b hb
      rcases mem_putL m x hx with e | hx
      · rw [e]; exact (List.pairwise_cons.1 hp.2).1 b hb
      · exact hm x hx b (List.mem_cons_of_mem _ hb)
/-! a B-tree in which nothing was removed. -/
def lift (m : R) : List LE := m.map fun p => (p.1, p.2, true)
theorem live_lift : ∀ m : R, live (lift m) = m
  | [] => rfl
  | p :: m => by
    show live ((p.1, p.2, true) :: lift m) = _
    unfold live
    rw [if_pos rfl, live_lift m]
theorem ups_lift {r : Int → Int} {k v : Int} : ∀ m : R, Bt.ups r k v true (lift m) = lift (putL r k v m)
  | [] => rfl
  | x :: m => by
    show Bt.ups r k v true ((x.1, x.2, true) :: lift m) = _
    unfold Bt.ups putL
    simp only
    by_cases a1 : r k < r x.1
    · rw [if_pos a1, if_neg (by omega), if_neg (by omega)]; rfl
    · rw [if_neg a1]
      by_cases b1 : r x.1 < r k
      · rw [if_pos b1, if_pos b1, ups_lift m]; rfl
      · rw [if_neg b1, if_neg b1, if_pos (by omega)]; rfl
theorem runB_puts {r : Int → Int} : ∀ (l : List ActD) (s : Bt.BT) (m : R), (∀ a ∈ l, a.act = 0) → s.Wf r → s.flat = lift m → (runB r s l).1.flat = lift (mapR r l m)
  | [], _, _, _, _, h => h
  | a :: l, s, m, ha, hw, h => by
    have h0 := ha a (by simp)
    have e : stepB r a s = (putB r a.key a.val s, .none) := by unfold stepB; rw [if_pos h0]
    have hf := putB_flat (k := a.key) (v := a.val) hw
    show (runB r (stepB r a s).1 l).1.flat = lift (mapR r l (mapS r a m))
    rw [e, mapS_put h0]
    exact runB_puts l _ _ (fun b hb => ha b (List.mem_cons_of_mem _ hb)) hf.2 (by rw [hf.1, h, ups_lift])
theorem btree_puts {r : Int → Int} {l : List ActD} (h : ∀ a ∈ l, a.act = 0) : live (runB r newB l).1.flat = mapR r l [] := by
  rw [runB_puts l newB [] h newB_wf rfl, live_lift]
/-- what both walks tell. -/
structure OrdOk (r : Int → Int) (F : List ActD → List ToldD) (l l' : List ActD) (P : R) : Prop where
  len : (F l).length = l.length ∧ (F l').length = l'.length
  a : F (l ++ [⟨4, 0, 0⟩]) = F l ++ [⟨0, false, P.map Prod.fst, P.map Prod.snd⟩]
  b : F (l' ++ [⟨4, 0, 0⟩]) = F l' ++ [⟨0, false, P.map Prod.fst, P.map Prod.snd⟩]
  pl : P.length = l.length
theorem avl_ord (xs : List Int) {l l' : List ActD} (hp : Puts (rankOf xs) l) (h : l.Perm l') : OrdOk (rankOf xs) (runN xs) l l' (mapR (rankOf xs) l []) := by
  have h1 := avl_ok xs l
  have h2 := avl_ok xs l'
  rw [← mapR_perm h [] hp] at h2
  exact ⟨⟨h1.len l, h2.len l'⟩, h1.all, h2.all, by simpa using mapR_puts_len l [] hp (fun _ h => by cases h)⟩
theorem btree_ord (xs : List Int) {l l' : List ActD} (hp : Puts (rankOf xs) l) (h : l.Perm l') : OrdOk (rankOf xs) (fun l => (runB (rankOf xs) newB l).2) l l' (mapR (rankOf xs) l []) := by
  have h1 := btree_ok xs l
  have h2 := btree_ok xs l'
  rw [btree_puts hp.1] at h1
  rw [btree_puts (puts_perm h hp).1, ← mapR_perm h [] hp] at h2
  exact ⟨⟨h1.len l, h2.len l'⟩, h1.all, h2.all, by simpa using mapR_puts_len l [] hp (fun _ h => by cases h)⟩
end Go.Proofs.Ytjbelfbfhcmgeaa.Kp
namespace Go.Proofs.Ytjbelfbfhcmgeaa.Kp
open Go.RowKit Om Bt

theorem alike_q (xs : List Int) (tv : Value) (B : Nat) (a b : Int) (w : World) (ht : SlR w B tv (xs.map i64v)) :
    Calls Try.prog 18 #[tv, .int .i64 a, .int .i64 b] w fun e w' => e = .returned (.bool (rankOf xs a == rankOf xs b)) ∧ ∃ n, w' = w.drewN n := by
  refine (alike_calls xs tv B a b w ht).mono ?_
  rintro e w1 ⟨rfl, rfl⟩
  exact ⟨rfl, 0, rfl⟩
def UnlikeL (xs : List Int) (ks : List Int) : Prop := ks.Pairwise (fun a b => rankOf xs a ≠ rankOf xs b)
theorem unlike_snoc {xs ks : List Int} {i : Nat} (h : UnlikeL xs (ks.take i)) (hi : i < ks.length) (hn : ∀ k, k < i → rankOf xs (ks.getD i 0) ≠ rankOf xs (ks.getD k 0)) : UnlikeL xs (ks.take (i + 1)) := by
  unfold UnlikeL at *
  rw [List.take_succ_eq_append_getElem hi, List.pairwise_append]
  refine ⟨h, List.pairwise_singleton _ _, fun a ha b hb => ?_⟩
  rw [List.mem_singleton] at hb
  subst hb
  obtain ⟨k, hk, rfl⟩ := List.mem_iff_getElem.1 ha
  rw [List.length_take] at hk
  have := hn k (by omega)
  rw [List.getElem_take]
  rw [List.getD_eq_getElem?_getD, List.getD_eq_getElem?_getD, List.getElem?_eq_getElem hi, List.getElem?_eq_getElem (show k < ks.length by omega)] at this
  exact Ne.symm this
set_option maxRecDepth 100000 in
set_option maxHeartbeats 1600000 in
theorem unlike_calls (xs ks : List Int) (tv kv : Value) (w : World) (ht : SlR w w.heap.size tv (xs.map i64v)) (hk : SlI w w.heap.size kv ks) (hn : ks.length ≤ 9223372036854775807) :
    Calls Try.prog 22 #[tv, kv] w fun e w' => ∃ b n, e = .returned (.bool b) ∧ (b = true → UnlikeL xs ks) ∧ w' = w.drewN n := by
  obtain ⟨A, c, rfl⟩ := ht.form
  rw [List.length_map] at *
  obtain ⟨A2, c2, rfl⟩ := hk.form
  have HT := Lib.hid ht
  have HK := Lib.hid hk
  clear ht hk
  go_enter Try.func22, Try.ntmps22
  go_wp2_with fail
  go_loopw [5] (fun i wr => ∃ k n : Nat, k ≤ ks.length ∧ i = .int .i64 k ∧ Hid (wr = w.drewN n ∧ UnlikeL xs (ks.take k))) (fun i _ => ks.length - (intOf i).toNat)
  case atStart => exact ⟨0, 0, Nat.zero_le _, rfl, Lib.hid ⟨rfl, List.Pairwise.nil⟩⟩
  case round =>
    obtain ⟨i, n, hi, rfl, HI⟩ := hrel
    by_cases hlt : i < ks.length
    · have pi0 : (0 : Int) ≤ (i : Int) := by omega
      have pi1 : (i : Int) < (ks.length : Int) := by omega
      obtain ⟨b, off, rfl, _, _, x1⟩ := SlI.at_ HK.out hlt
      have hxi : ks[i] = ks.getD i 0 := by rw [List.getD_eq_getElem?_getD, List.getElem?_eq_getElem hlt]; rfl
      rw [hxi] at x1
      have HX1 := Lib.hid x1
      clear hxi x1
      have Hw := Lib.hid (show ∃ m, wr = w.drewN m from ⟨n, HI.out.1⟩)
      go_wp2_with fail
      go_loopw [6] (fun k wr => ∃ k' : Nat, k' ≤ i ∧ k = .int .i64 k' ∧ Hid ((∃ m, wr = w.drewN m) ∧ ∀ j, j < k' → rankOf xs (ks.getD i 0) ≠ rankOf xs (ks.getD j 0))) (fun k _ => i - (intOf k).toNat)
      case atStart => exact ⟨0, Nat.zero_le _, rfl, Lib.hid ⟨Hw.out, fun j hj => absurd hj (Nat.not_lt_zero _)⟩⟩
      case round =>
        obtain ⟨k, hk, rfl, HJ⟩ := hrel
        by_cases hltk : k < i
        · have pk0 : (0 : Int) ≤ (k : Int) := by omega
          have pk1 : (k : Int) < (ks.length : Int) := by omega
          obtain ⟨b2, off2, hbo, _, _, x2⟩ := SlI.at_ HK.out (show k < ks.length by omega)
          obtain ⟨rfl, rfl⟩ : b = b2 ∧ off = off2 := by simpa using hbo
          have hxk : ks[k] = ks.getD k 0 := by rw [List.getD_eq_getElem?_getD, List.getElem?_eq_getElem (show k < ks.length by omega)]; rfl
          rw [hxk] at x2
          obtain ⟨m, hm⟩ := HJ.out.1
          have y1 : wr.cell? ⟨b, off + i, none⟩ = some (.int .i64 (ks.getD i 0)) := by rw [hm]; exact HX1.out
          have y2 : wr.cell? ⟨b, off + k, none⟩ = some (.int .i64 (ks.getD k 0)) := by rw [hm]; exact x2
          have HA := Lib.hid (fun m' => alike_q xs (.slice A xs.length c) w.heap.size (ks.getD i 0) (ks.getD k 0) (wr.drewN m') (by rw [hm]; exact (HT.out.drewN m).drewN m'))
          have HM := Lib.hid hm
          obtain ⟨xi, hxi⟩ : ∃ x, x = ks.getD i 0 := ⟨_, rfl⟩
          obtain ⟨xk, hxk'⟩ : ∃ x, x = ks.getD k 0 := ⟨_, rfl⟩
          have HXX := Lib.hid (And.intro hxi hxk')
          rw [← hxi] at y1 HA
          rw [← hxk'] at y2 HA
          clear hm hbo hxk x2 hxi hxk'
          by_cases ce : rankOf xs xi = rankOf xs xk
          · have e1 : (rankOf xs xi == rankOf xs xk) = true := by simpa using ce
            clear ce
            go_wp2_with fail
            go_quiet ((go_at_call 18; exact Calls.quiet_of (HA.out _)))
            go_wp2_with fail
            go_ret
            exact ⟨false, _, rfl, (fun h => by cases h), by rw [HM.out]; exact World.drewN_drewN _ _ _⟩
          · have e1 : (rankOf xs xi == rankOf xs xk) = false := by simpa using ce
            have HCE := Lib.hid ce
            clear ce
            go_wp2_with fail
            go_quiet ((go_at_call 18; exact Calls.quiet_of (HA.out _)))
            go_wp2_with fail
            refine ⟨⟨k + 1, by omega, by go_num, Lib.hid ⟨⟨_, by rw [HM.out]; exact World.drewN_drewN _ _ _⟩, fun j hj => ?_⟩⟩, by simp [intOf]; omega⟩
            by_cases ej : j = k
            · subst ej; rw [← HXX.out.1, ← HXX.out.2]; exact HCE.out
            · exact HJ.out.2 j (by omega)
        · have : k = i := by omega
          subst this
          obtain ⟨m, hm⟩ := HJ.out.1
          have HS := Lib.hid (And.intro hm (unlike_snoc HI.out.2 hlt HJ.out.2))
          clear hm HJ HI
          go_wp2_with fail
          exact ⟨⟨k + 1, m, by omega, by go_num, HS⟩, by simp [intOf]; omega⟩
    · have : i = ks.length := by omega
      subst this
      have h := HI.out
      rw [List.take_length] at h
      have HH := Lib.hid h
      clear h HI
      go_wp2_with fail
      go_ret
      exact ⟨true, n, rfl, fun _ => HH.out.2, HH.out.1⟩
end Go.Proofs.Ytjbelfbfhcmgeaa.Kp
namespace Go.Proofs.Ytjbelfbfhcmgeaa.Kp
open Go.RowKit Om Bt

theorem own_setC {w : World} {base : Nat} {T : TypeId} {s n g cap : Nat} {xs : List Value} (ho : w.ownsRow base T s (.slice (some ⟨g, 0, none⟩) n cap) n xs) (j : Nat) (u : Value) :
    (w.setCell ⟨g, j, none⟩ u).ownsRow base T s (.slice (some ⟨g, 0, none⟩) n cap) n (xs.set j u) := by
  refine ⟨by rw [List.length_set]; exact ho.1, ?_⟩
  rcases ho.2 with ⟨e, _⟩ | ⟨g', cap', cur, e, h1, h2, h3, h4, h5, h6⟩
  · cases e
  · cases e
    refine .inr ⟨g, cap, cur.setIfInBounds j u, rfl, h1, Blk.set (show Blk w g cur T from h2) j u, h3, h4, by simpa using h5, ?_⟩
    rw [Array.toList_setIfInBounds, ← h6, List.take_set]
theorem actCells_set : ∀ (l : List ActD) (i : Nat) (y : ActD), actCells (l.set i y) = (((actCells l).set (i * 3) (.int .i64 y.act)).set (i * 3 + 1) (.int .i64 y.key)).set (i * 3 + 2) (.int .i64 y.val)
  | [], _, _ => rfl
  | a :: l, 0, y => rfl
  | a :: l, i + 1, y => by
    have ih := actCells_set l i y
    show _ :: _ :: _ :: actCells (l.set i y) = _
    rw [ih, show (i + 1) * 3 = i * 3 + 1 + 1 + 1 by omega]
    rfl
theorem own_swap {w : World} {base : Nat} {n g cap : Nat} {L : List ActD} (ho : w.ownsRow base 52 3 (.slice (some ⟨g, 0, none⟩) n cap) n (actCells L)) (a b : Nat) (x y : ActD) :
    ((((((w.setCell ⟨g, a * 3, none⟩ (.int .i64 y.act)).setCell ⟨g, a * 3 + 1, none⟩ (.int .i64 y.key)).setCell ⟨g, a * 3 + 2, none⟩ (.int .i64 y.val)).setCell ⟨g, b * 3, none⟩ (.int .i64 x.act)).setCell ⟨g, b * 3 + 1, none⟩ (.int .i64 x.key)).setCell ⟨g, b * 3 + 2, none⟩ (.int .i64 x.val)).ownsRow base 52 3 (.slice (some ⟨g, 0, none⟩) n cap) n (actCells ((L.set a y).set b x)) := by
  have := own_setC (own_setC (own_setC (own_setC (own_setC (own_setC ho (a * 3) (.int .i64 y.act)) (a * 3 + 1) (.int .i64 y.key)) (a * 3 + 2) (.int .i64 y.val)) (b * 3) (.int .i64 x.act)) (b * 3 + 1) (.int .i64 x.key)) (b * 3 + 2) (.int .i64 x.val)
  rw [actCells_set, actCells_set]
  exact this
/-- what an own row of steps holds. -/
theorem own_acts {w : World} {base n : Nat} {A : Option Addr} {cap : Nat} {L : List ActD} (hL : L.length = n) (ho : w.ownsRow base 52 3 (.slice A n cap) n (actCells L)) (hn : 0 < n) :
    ∃ g, A = some ⟨g, 0, none⟩ ∧ base ≤ g ∧ g < w.heap.size ∧ n ≤ cap ∧ (∀ i, w.frozen? ⟨g, i, none⟩ = false) ∧ ∀ (i : Nat) a, L[i]? = some a → w.cell? ⟨g, i * 3, none⟩ = some (.int .i64 a.act) ∧ w.cell? ⟨g, i * 3 + 1, none⟩ = some (.int .i64 a.key) ∧ w.cell? ⟨g, i * 3 + 2, none⟩ = some (.int .i64 a.val) := by
  rcases ho.2 with ⟨_, h0⟩ | ⟨g, cap', cur, e, h1, h2, h3, h4, h5, h6⟩
  · omega
  · cases e
    have hb : Blk w g cur 52 := h2
    refine ⟨g, rfl, h1, hb.lt, h3, hb.frozen, fun i a hi => ?_⟩
    have hil : i < n := by rw [← hL]; exact (List.getElem?_eq_some_iff.1 hi).1
    obtain ⟨a0, a1, a2⟩ := actCells_get L i a hi
    have key : ∀ j x, j < n * 3 → (actCells L)[j]? = some x → w.cell? ⟨g, j, none⟩ = some x := by
      intro j x hj hx
      rw [← h6, List.getElem?_take_of_lt hj] at hx
      rw [hb.cell j, ← hx]; simp
    exact ⟨key _ _ (by omega) a0, key _ _ (by omega) a1, key _ _ (by omega) a2⟩
theorem cells2_drew' {w3 w : World} {p0 p1 : Addr} {v0 v1 : Value} (m : Nat) (h : w.cell? p0 = some v0 ∧ w.cell? p1 = some v1 ∧ ∃ n, w = w3.drewN n) :
    (w.drewN m).cell? p0 = some v0 ∧ (w.drewN m).cell? p1 = some v1 ∧ ∃ n, w.drewN m = w3.drewN n := by
  obtain ⟨h0, h1, n, rfl⟩ := h
  exact ⟨h0, h1, _, World.drewN_drewN _ _ _⟩
structure TurnI (w : World) (n : Nat) (l : List ActD) (v : Value) (wx : World) : Prop where
  is : ∃ L, L.Perm l ∧ wx.ownsRow w.heap.size 52 3 v n (actCells L)
  bel : Below w.heap.size w wx
theorem TurnI.end' {w w1 : World} {n : Nat} {l L : List ActD} {v : Value} (h1 : L.Perm l) (h2 : w1.ownsRow w.heap.size 52 3 v n (actCells L)) (h3 : Below w.heap.size w w1) : TurnI w n l v w1.drew :=
  ⟨⟨L, h1, h2.drew⟩, h3.trans (Below.drewN w1 1)⟩
set_option maxRecDepth 100000 in
set_option maxHeartbeats 3200000 in
theorem turned_calls (lv tv : Value) (l : List ActD) (ts : List Int) (w : World) (hl : SlA w w.heap.size lv l) (hln : ∀ m c, lv = .slice none m c → m = 0 ∧ c = 0) (ht : SlI w w.heap.size tv ts) (hn : l.length ≤ 5000000000) (htn : ts.length ≤ 5000000000) :
    Calls Try.prog 23 #[lv, tv] w fun e w' => ∃ v L, e = .returned v ∧ w'.ownsRow w.heap.size 52 3 v l.length (actCells L) ∧ L.Perm l ∧ Below w.heap.size w w' := by
  obtain ⟨A, c, rfl⟩ := hl.form
  obtain ⟨A2, c2, rfl⟩ := ht.form
  obtain ⟨i0, hi0, hz0, hz1, hz2⟩ := info_parts Try.infoAct
  have HL := Lib.hid hl
  have HLN := Lib.hid hln
  have HT := Lib.hid ht
  clear hl hln ht
  go_enter Try.func23, Try.ntmps23
  go_wp2_with (at_builtin; (refine wpList_append_C actCell_len _ rfl (.tmp 9) (.tmp 10) 23 rfl w.heap.size 52 i0 _ 24 Try.underlying23 hi0 hz0 hz1 hz2 rfl (by omega) _ 0 [] rfl (own_empty w _ 3) _ l rfl (HL.out.toC.below ((Below.refl _ w).alloc (Nat.le_refl _) _)) HLN.out (by intro a; simp [actCell, Value.oneCell']) (by unfold maxLen; omega) (by omega) (by simp) ?_))
  intro v1 w1 hown1 hgrow1
  have B1 : Below w.heap.size w w1 := ((Below.refl _ w).alloc (Nat.le_refl _) _).grown hgrow1 (by simp) (fun g hg => (own_empty w 52 3).lt g hg |>.1)
  have HI := Lib.hid (show TurnI w l.length l v1 w1 from ⟨⟨l, List.Perm.refl _, hown1⟩, B1⟩)
  obtain ⟨A1, c1, rfl⟩ := kd_form hown1
  clear hown1 hgrow1 B1
  go_wp2_with fail
  go_loopw [6] (fun i wx => ∃ k : Nat, k ≤ ts.length ∧ i = .int .i64 k ∧ Hid (TurnI w l.length l (.slice A1 l.length c1) wx)) (fun i _ => ts.length - (intOf i).toNat)
  case atStart => exact ⟨0, Nat.zero_le _, rfl, HI⟩
  case round =>
    obtain ⟨k, hk, rfl, HK⟩ := hrel
    by_cases hlt : k < ts.length ∧ 0 < l.length
    · obtain ⟨hlt, hpos⟩ := hlt
      have pk0 : (0 : Int) ≤ (k : Int) := by omega
      have pk1 : (k : Int) < (ts.length : Int) := by omega
      have pl0 : (0 : Int) < (l.length : Int) := by omega
      have e0 : decide ((k : Int) < (ts.length : Int)) = true := decide_eq_true pk1
      have e1 : decide (0 < (l.length : Int)) = true := decide_eq_true pl0
      obtain ⟨L, hperm, hown⟩ := HK.out.is
      obtain ⟨g, rfl, hg, hgl, hcap, gf, hcells⟩ := own_acts hperm.length_eq hown hpos
      obtain ⟨b, off, rfl, _, _, x1⟩ := SlI.at_ HT.out hlt
      have y1 : wr.cell? ⟨b, off + k, none⟩ = some (.int .i64 ts[k]) := ((HT.out.below HK.out.bel) |> fun h => by
        obtain ⟨b', off', e, _, _, x⟩ := SlI.at_ h hlt
        simp at e
        obtain ⟨rfl, rfl⟩ := e
        exact x)
      generalize ts[k] = t at *
      go_upto_region 5 with (fail)
      go_cut [7, 8] (fun s7 s8 wx => ∃ a b : Nat, a < l.length ∧ b < l.length ∧ s7 = .int .i64 (a : Nat) ∧ s8 = .int .i64 (b : Nat) ∧ ∃ n, wx = wr.drewN n)
      case first =>
        have hne : ((l.length : Int) == 0) = false := by rw [beq_eq_false_iff_ne]; omega
        have hne2 : ¬ l = [] := fun h => by rw [h] at hpos; simp at hpos
        refine region_runs (S := (fun w' => w'.cell? ⟨b, off + k, none⟩ = some (.int .i64 t) ∧ w'.cell? ⟨b, off + k, none⟩ = some (.int .i64 t) ∧ ∃ n, w' = wr.drewN n)) (by kernel_rfl) (by kernel_rfl) (by kernel_rfl) (cells2_drew' 1 ⟨y1, y1, 0, rfl⟩) ?_
        iterate 19
          first
          | (refine Runs.off (by rfl) ?_
             simp only [Act.put, List.setIfInBounds_toArray, List.set_cons_zero, List.set_cons_succ])
          | (refine Runs.take (v := ?_) (by rfl) ?_ ?_
             rotate_left 1
             · intro w hSw; (try dsimp only at hSw); go_simp; (try with_reducible rfl)
             simp only [Act.put, List.setIfInBounds_toArray, List.set_cons_zero, List.set_cons_succ])
          | fail
        dsimp only [Runs]
        intro w' hH
        go_wp2_with fail
        go_meet
        have hm1 := Int.emod_nonneg t (show (l.length : Int) ≠ 0 by omega)
        have hm2 := Int.emod_lt_of_pos t pl0
        have hm3 : (IntKind.i64.wrap (t.tmod (l.length : Int) + (l.length : Int))).tmod (l.length : Int) = t % (l.length : Int) := by
          have h1 := mod_math t l.length (by omega) (by omega)
          have h2 := tmod_bd t l.length pl0
          rw [show wrap64 (t.tmod (l.length : Int) + (l.length : Int)) = t.tmod (l.length : Int) + (l.length : Int) by unfold wrap64; omega] at h1
          rw [IntWalk.i64_in _ (by omega)]; exact h1
        refine ⟨k % l.length, (t % (l.length : Int)).toNat, Nat.mod_lt _ hpos, by omega, ?_, ?_, hH.2.2⟩
        · rw [Int.tmod_eq_emod_of_nonneg pk0]; rfl
        · rw [hm3, Int.toNat_of_nonneg hm1]
      case rest =>
        obtain ⟨a, d, ha, hd, rfl, rfl, n1, hw1⟩ := hcut
        obtain ⟨x, hx⟩ : ∃ x, L[a]? = some x := ⟨_, List.getElem?_eq_getElem (by rw [hperm.length_eq]; exact ha)⟩
        obtain ⟨y, hy⟩ : ∃ x, L[d]? = some x := ⟨_, List.getElem?_eq_getElem (by rw [hperm.length_eq]; exact hd)⟩
        have hownc : wc.ownsRow w.heap.size 52 3 (.slice (some ⟨g, 0, none⟩) l.length c1) l.length (actCells L) := by rw [hw1]; exact hown
        have hbc : Below w.heap.size w wc := by rw [hw1]; exact HK.out.bel.trans (Below.drewN _ _)
        obtain ⟨g', hg', _, gl', _, gf', hcells'⟩ := own_acts hperm.length_eq hownc hpos
        obtain rfl : g = g' := by simpa using hg'
        obtain ⟨x0, x1', x2⟩ := hcells' a x hx
        obtain ⟨y0, y1', y2⟩ := hcells' d y hy
        have hsw := own_swap hownc a d x y
        have hpm : ((L.set a y).set d x).Perm l := by
          obtain ⟨h1, e1⟩ := List.getElem?_eq_some_iff.1 hx
          obtain ⟨h2, e2⟩ := List.getElem?_eq_some_iff.1 hy
          have := List.set_set_perm h1 h2
          rw [e1, e2] at this
          exact this.trans hperm
        have hxy : a = d → x = y := fun e => by subst e; rw [hx] at hy; cases hy; rfl
        have HB6 := Lib.hid ((((((hbc.setCell (p := ⟨g, a * 3, none⟩) hg (.int .i64 y.act)).setCell (p := ⟨g, a * 3 + 1, none⟩) hg (.int .i64 y.key)).setCell (p := ⟨g, a * 3 + 2, none⟩) hg (.int .i64 y.val)).setCell (p := ⟨g, d * 3, none⟩) hg (.int .i64 x.act)).setCell (p := ⟨g, d * 3 + 1, none⟩) hg (.int .i64 x.key)).setCell (p := ⟨g, d * 3 + 2, none⟩) hg (.int .i64 x.val))
        have HS := Lib.hid (And.intro hsw (And.intro hpm hbc))
        have HXY := Lib.hid hxy
        clear hxy
        have a0 : (0 : Int) ≤ (a : Int) := by omega
        have a1 : (a : Int) < (l.length : Int) := by omega
        have b0 : (0 : Int) ≤ (d : Int) := by omega
        have b1 : (d : Int) < (l.length : Int) := by omega
        clear hsw hpm hbc hownc hcells hcells' hw1 hx hy hg' hown gf hgl y1 x1
        by_cases had : a = d
        · subst had
          obtain rfl := HXY.out rfl
          obtain ⟨xa, xk, xv⟩ := x
          simp only at x0 x1' x2 y0 y1' y2 HS HB6
          go_wp2_with fail
          go_region_with (fail)
          all_goals
            go_wp2_with fail
            refine ⟨⟨k + 1, by omega, by go_num, Lib.hid ?_⟩, by simp [intOf]; omega⟩
            with_reducible exact TurnI.end' HS.out.2.1 HS.out.1 HB6.out
        · have had' : ¬ d = a := fun h => had h.symm
          obtain ⟨xa, xk, xv⟩ := x
          obtain ⟨ya, yk, yv⟩ := y
          simp only at x0 x1' x2 y0 y1' y2 HS HB6
          have na00 : ¬ (a * 3 = d * 3) := by omega
          have na01 : ¬ (a * 3 = d * 3 + 1) := by omega
          have na02 : ¬ (a * 3 = d * 3 + 2) := by omega
          have na10 : ¬ (a * 3 + 1 = d * 3) := by omega
          have na11 : ¬ (a * 3 + 1 = d * 3 + 1) := by omega
          have na12 : ¬ (a * 3 + 1 = d * 3 + 2) := by omega
          have na20 : ¬ (a * 3 + 2 = d * 3) := by omega
          have na21 : ¬ (a * 3 + 2 = d * 3 + 1) := by omega
          have na22 : ¬ (a * 3 + 2 = d * 3 + 2) := by omega
          have nd00 : ¬ (d * 3 = a * 3) := by omega
          have nd01 : ¬ (d * 3 = a * 3 + 1) := by omega
          have nd02 : ¬ (d * 3 = a * 3 + 2) := by omega
          have nd10 : ¬ (d * 3 + 1 = a * 3) := by omega
          have nd11 : ¬ (d * 3 + 1 = a * 3 + 1) := by omega
          have nd12 : ¬ (d * 3 + 1 = a * 3 + 2) := by omega
          have nd20 : ¬ (d * 3 + 2 = a * 3) := by omega
          have nd21 : ¬ (d * 3 + 2 = a * 3 + 1) := by omega
          have nd22 : ¬ (d * 3 + 2 = a * 3 + 2) := by omega
          go_wp2_with fail
          go_region_with (fail)
          all_goals
            go_wp2_with fail
            refine ⟨⟨k + 1, by omega, by go_num, Lib.hid ?_⟩, by simp [intOf]; omega⟩
            with_reducible exact TurnI.end' HS.out.2.1 HS.out.1 HB6.out
    · have hdn : decide ((k : Int) < (ts.length : Int)) = false ∨ decide (0 < (l.length : Int)) = false := by
        by_cases h : k < ts.length
        · right; exact decide_eq_false (by omega)
        · left; exact decide_eq_false (by omega)
      obtain ⟨L, hperm, hown⟩ := HK.out.is
      have HO := Lib.hid (And.intro hown (And.intro hperm HK.out.bel))
      clear hperm hown HK
      have hfin : Calls Try.prog 23 #[] w (fun _ _ => True) = Calls Try.prog 23 #[] w (fun _ _ => True) := rfl
      clear hfin
      by_cases h1 : k < ts.length
      · have h2 : ¬ 0 < l.length := fun h => hlt ⟨h1, h⟩
        have e1 : decide ((k : Int) < (ts.length : Int)) = true := decide_eq_true (by omega)
        have e2 : decide (0 < (l.length : Int)) = false := decide_eq_false (by omega)
        have e3 : ¬ 0 < (l.length : Int) := by omega
        have e4 : l = [] := List.length_eq_zero_iff.1 (by omega)
        have hL : L = [] := List.Perm.eq_nil (e4 ▸ HO.out.2.1)
        have hO : wr.ownsRow w.heap.size 52 3 (.slice A1 0 c1) 0 (actCells []) ∧ Below w.heap.size w wr := by
          have h := HO.out
          rw [e4, hL] at h
          exact ⟨h.1, h.2.2⟩
        have HO' := Lib.hid hO
        clear hdn hlt hO hL
        go_wp2_with fail
        go_ret
        exact ⟨.slice A1 0 c1, rfl, [], HO'.out.1, by first | exact List.Perm.nil | simp, HO'.out.2⟩
      · have e1 : decide ((k : Int) < (ts.length : Int)) = false := decide_eq_false (by omega)
        clear hdn hlt
        go_wp2_with fail
        go_ret
        exact ⟨.slice A1 l.length c1, L, rfl, HO.out.1, HO.out.2.1, HO.out.2.2⟩
end Go.Proofs.Ytjbelfbfhcmgeaa.Kp
