/- spec.Tree: find, Get, Put, Remove: what they make of rows of keys and values. -/
import Derived.Test.YtjbelfbfhcmgeaaSpecT
import Derived.Deep.RegionHeld3
namespace Go.Proofs.Ytjbelfbfhcmgeaa.Kp
open Go.RowKit

/-- where a key stands, or would. -/
def posT (r : Int → Int) (k : Int) (ks : List Int) : Nat := (ks.takeWhile fun x => decide (r x < r k)).length
def isT (r : Int → Int) (k : Int) (ks : List Int) : Bool := decide (posT r k ks < ks.length) && (r (ks.getD (posT r k ks) 0) == r k)
theorem posT_le (r : Int → Int) (k : Int) : ∀ ks : List Int, posT r k ks ≤ ks.length
  | [] => by simp [posT]
  | x :: ks => by
    unfold posT
    rw [List.takeWhile_cons]
    split
    · have := posT_le r k ks
      unfold posT at this
      simp; omega
    · simp
theorem posT_lt (r : Int → Int) (k : Int) : ∀ (ks : List Int) (j : Nat), j < posT r k ks → r (ks.getD j 0) < r k
  | [], j, h => by simp [posT] at h
  | x :: ks, j, h => by
    unfold posT at h
    rw [List.takeWhile_cons] at h
    split at h
    · rename_i c
      cases j with
      | zero => simpa using c
      | succ j => exact posT_lt r k ks j (by unfold posT; simpa using h)
    · simp at h
theorem posT_ge (r : Int → Int) (k : Int) : ∀ ks : List Int, posT r k ks < ks.length → ¬ r (ks.getD (posT r k ks) 0) < r k
  | [], h => by simp at h
  | x :: ks, h => by
    unfold posT at h ⊢
    rw [List.takeWhile_cons] at h ⊢
    split at h
    · rename_i c
      have := posT_ge r k ks (by unfold posT; simpa using h)
      unfold posT at this
      rw [if_pos c]
      simpa using this
    · rename_i c
      rw [if_neg c]
      simpa using c
set_option maxRecDepth 100000 in
set_option maxHeartbeats 1600000 in
theorem find_calls (xs : List Int) (tv : Value) (ks : List Int) (kv vv : Value) (hvv : ∃ A n c, vv = .slice A n c) (k : Int) (w : World) (ht : SlR w w.heap.size tv (xs.map i64v)) (hk : NS w kv ks) (hn : ks.length ≤ 100000000000) :
    Calls Try.prog 60 #[.agg #[kv, vv], tv, .int .i64 k] w fun e w' => e = .returned (.tuple #[.int .i64 (posT (rankOf xs) k ks), .bool (isT (rankOf xs) k ks)]) ∧ Below w.heap.size w w' := by
  obtain ⟨At, ct, rfl⟩ := ht.form
  rw [List.length_map] at *
  obtain ⟨Ak, ck, rfl⟩ := hk.form
  obtain ⟨Av, nv, cv, rfl⟩ := hvv
  have hp := posT_le (rankOf xs) k ks
  have HL := Lib.hid (posT_lt (rankOf xs) k ks)
  have HG := Lib.hid (posT_ge (rankOf xs) k ks)
  have HIS : Hid (isT (rankOf xs) k ks = (decide (posT (rankOf xs) k ks < ks.length) && (rankOf xs (ks.getD (posT (rankOf xs) k ks) 0) == rankOf xs k))) := Lib.hid rfl
  have b0 : Below w.heap.size w (w.alloc (.cells #[.slice Ak ks.length ck, .slice Av nv cv] 42)) := (Below.refl _ w).alloc (Nat.le_refl _) _
  have HT := Lib.hid ((ht.below b0).mono b0.size)
  have HK := Lib.hid (hk.below b0)
  have HB := Lib.hid b0
  clear ht hk b0
  generalize posT (rankOf xs) k ks = p at *
  generalize isT (rankOf xs) k ks = is at *
  go_enter Try.func60, Try.ntmps60
  go_wp2_with fail
  have cc : (w.alloc (.cells #[.slice Ak ks.length ck, .slice Av nv cv] 42)).cell? ⟨w.heap.size, 0, none⟩ = some (.slice Ak ks.length ck) := (Blk.new w #[.slice Ak ks.length ck, .slice Av nv cv] 42).cell 0
  generalize w.alloc (.cells #[.slice Ak ks.length ck, .slice Av nv cv] 42) = W at *
  have HRK := Lib.hid (fun a => specRank_calls xs _ _ a W HT.out)
  have HAK := Lib.hid (fun a b => alike_calls xs _ _ a b W HT.out)
  go_loop [8] (fun i => ∃ j : Nat, j ≤ p ∧ i = .int .i64 (j : Nat)) (fun i => p - (intOf i).toNat)
  case atStart => exact ⟨0, Nat.zero_le _, rfl⟩
  case round =>
    obtain ⟨j, hj, rfl⟩ := hrel
    by_cases hlt : j < p
    · obtain ⟨b, off, rfl, h1, h2, h3, q0⟩ := HK.out.at_ (i := j) (by omega)
      have hlr := HL.out j hlt
      have dr : decide (rankOf xs (ks.getD j 0) < rankOf xs k) = true := decide_eq_true hlr
      clear hlr
      generalize ks.getD j 0 = kj at *
      go_wp2_with fail
      refine (HRK.out _).mono ?_
      rintro e w1 ⟨rfl, rfl⟩
      go_wp2_with fail
      refine (HRK.out _).mono ?_
      rintro e w1 ⟨rfl, rfl⟩
      go_wp2_with fail
      exact ⟨⟨j + 1, by omega, by go_num⟩, by simp [intOf]; omega⟩
    · obtain rfl : j = p := by omega
      by_cases hl : j < ks.length
      · obtain ⟨b, off, rfl, h1, h2, h3, q0⟩ := HK.out.at_ (i := j) hl
        have dr : decide (rankOf xs (ks.getD j 0) < rankOf xs k) = false := decide_eq_false (Int.not_lt.2 (HG.out hl))
        have HI2 : Hid (is = (rankOf xs (ks.getD j 0) == rankOf xs k)) := Lib.hid (by rw [HIS.out, decide_eq_true hl]; rfl)
        clear HIS
        generalize ks.getD j 0 = kj at *
        go_wp2_with fail
        refine (HRK.out _).mono ?_
        rintro e w1 ⟨rfl, rfl⟩
        go_wp2_with fail
        refine (HRK.out _).mono ?_
        rintro e w1 ⟨rfl, rfl⟩
        go_wp2_with fail
        refine (HAK.out _ _).mono ?_
        rintro e w1 ⟨rfl, rfl⟩
        go_wp2_with fail
        go_ret2
        exact ⟨by rw [HI2.out]; rfl, HB.out⟩
      · have HI2 : Hid (is = false) := Lib.hid (by rw [HIS.out, decide_eq_false hl]; rfl)
        obtain rfl : j = ks.length := by omega
        clear HIS
        go_wp2_with fail
        go_ret2
        exact ⟨by rw [HI2.out]; rfl, HB.out⟩
open Om
/-- a map with an order: its keys, and their values. -/
structure TT (w : World) (kv vv : Value) (m : R) : Prop where
  ks : NS w kv (m.map Prod.fst)
  vs : NS w vv (m.map Prod.snd)
theorem TT.below {w w' : World} {kv vv : Value} {m : R} (h : TT w kv vv m) (hb : Below w.heap.size w w') : TT w' kv vv m := ⟨h.ks.below hb, h.vs.below hb⟩
theorem fst_getD (m : R) (i : Nat) (h : i < m.length) : (m.map Prod.fst).getD i 0 = (m.getD i (0, 0)).1 := by
  rw [List.getD_eq_getElem?_getD, List.getElem?_map, List.getD_eq_getElem?_getD, List.getElem?_eq_getElem h]; rfl
/-- Put by places: where the key stands, or would. -/
theorem putL_pos (r : Int → Int) (k v : Int) : ∀ m : R, putL r k v m = if isT r k (m.map Prod.fst) then m.take (posT r k (m.map Prod.fst)) ++ [((m.getD (posT r k (m.map Prod.fst)) (0, 0)).1, v)] ++ m.drop (posT r k (m.map Prod.fst) + 1) else m.take (posT r k (m.map Prod.fst)) ++ [(k, v)] ++ m.drop (posT r k (m.map Prod.fst))
  | [] => by simp [putL, isT, posT]
  | x :: m => by
    have ih := putL_pos r k v m
    by_cases c : r x.1 < r k
    · have e1 : posT r k ((x :: m).map Prod.fst) = posT r k (m.map Prod.fst) + 1 := by
        unfold posT; rw [List.map_cons, List.takeWhile_cons]; simp [c]
      have e2 : isT r k ((x :: m).map Prod.fst) = isT r k (m.map Prod.fst) := by
        unfold isT; rw [e1]; simp
      rw [e2, e1]
      simp only [putL]
      rw [if_neg (by omega), if_pos c, ih]
      split <;> simp
    · have e1 : posT r k ((x :: m).map Prod.fst) = 0 := by
        unfold posT; rw [List.map_cons, List.takeWhile_cons]; simp [c]
      have e2 : isT r k ((x :: m).map Prod.fst) = (r x.1 == r k) := by
        unfold isT; rw [e1]; simp
      rw [e2, e1]
      simp only [putL]
      by_cases c2 : r k < r x.1
      · rw [if_pos c2]
        have : (r x.1 == r k) = false := by rw [beq_eq_false_iff_ne]; omega
        rw [this]; simp
      · rw [if_neg c2, if_neg c]
        have : (r x.1 == r k) = true := by rw [beq_iff_eq]; omega
        rw [this]; simp
theorem remL_pos (r : Int → Int) (k : Int) : ∀ m : R, Rises r m → remL r k m = if isT r k (m.map Prod.fst) then m.take (posT r k (m.map Prod.fst)) ++ m.drop (posT r k (m.map Prod.fst) + 1) else m
  | [], _ => by simp [remL, isT, posT]
  | x :: m, hr => by
    have hr' := List.pairwise_cons.1 hr
    have ih := remL_pos r k m hr'.2
    rw [remL_cons]
    by_cases c : r x.1 < r k
    · have e1 : posT r k ((x :: m).map Prod.fst) = posT r k (m.map Prod.fst) + 1 := by
        unfold posT; rw [List.map_cons, List.takeWhile_cons]; simp [c]
      have e2 : isT r k ((x :: m).map Prod.fst) = isT r k (m.map Prod.fst) := by
        unfold isT; rw [e1]; simp
      rw [e2, e1, if_neg (by omega), ih]
      split <;> simp
    · have e1 : posT r k ((x :: m).map Prod.fst) = 0 := by
        unfold posT; rw [List.map_cons, List.takeWhile_cons]; simp [c]
      have e2 : isT r k ((x :: m).map Prod.fst) = (r x.1 == r k) := by
        unfold isT; rw [e1]; simp
      have hn : remL r k m = m := remL_none (fun y hy => by have := hr'.1 y hy; omega)
      rw [e2, e1, hn]
      by_cases c2 : r x.1 = r k
      · simp [c2]
      · have : (r x.1 == r k) = false := by rw [beq_eq_false_iff_ne]; exact c2
        rw [if_neg c2, this]; simp
theorem getL_pos (r : Int → Int) (k : Int) : ∀ m : R, Rises r m → getL r k m = if isT r k (m.map Prod.fst) then some (m.getD (posT r k (m.map Prod.fst)) (0, 0)) else none
  | [], _ => by simp [getL, isT, posT]
  | x :: m, hr => by
    have hr' := List.pairwise_cons.1 hr
    have ih := getL_pos r k m hr'.2
    by_cases c : r x.1 < r k
    · have e1 : posT r k ((x :: m).map Prod.fst) = posT r k (m.map Prod.fst) + 1 := by
        unfold posT; rw [List.map_cons, List.takeWhile_cons]; simp [c]
      have e2 : isT r k ((x :: m).map Prod.fst) = isT r k (m.map Prod.fst) := by
        unfold isT; rw [e1]; simp
      rw [e2, e1, getL_tail (by omega), ih]
      split <;> simp
    · have e1 : posT r k ((x :: m).map Prod.fst) = 0 := by
        unfold posT; rw [List.map_cons, List.takeWhile_cons]; simp [c]
      have e2 : isT r k ((x :: m).map Prod.fst) = (r x.1 == r k) := by
        unfold isT; rw [e1]; simp
      rw [e2, e1]
      by_cases c2 : r x.1 = r k
      · rw [getL_head c2]; simp [c2]
      · have hn : getL r k m = none := find_none (fun y hy => by have := hr'.1 y hy; omega)
        have : (r x.1 == r k) = false := by rw [beq_eq_false_iff_ne]; exact c2
        rw [getL_tail c2, hn, this]; simp
end Go.Proofs.Ytjbelfbfhcmgeaa.Kp
