/- the table of least places: keys stand to each other as in the first one, so trees tell the same; no program in sight. spec.Dense, laws.treeSame: the walks. -/
import Derived.Test.YtjbelfbfhcmgeaaBtR
import Derived.Test.YtjbelfbfhcmgeaaAvl9
import Derived.Test.YtjbelfbfhcmgeaaBtL
import Derived.Deep.Cut
namespace Go.Proofs.Ytjbelfbfhcmgeaa.Kp
open Om Bt

def fstTo (xs : List Int) (k : Nat) : Nat → Bool
  | 0 => true
  | j + 1 => fstTo xs k j && (xs.getD j 0 != xs.getD k 0)
def dn (xs : List Int) (v : Int) : Nat → Nat
  | 0 => 0
  | k + 1 => dn xs v k + if fstTo xs k k && decide (xs.getD k 0 < v) then 1 else 0
def denseOf (xs : List Int) : List Int := xs.map fun v => ((dn xs v xs.length : Nat) : Int)
theorem dn_le (xs : List Int) (v : Int) : ∀ k, dn xs v k ≤ k
  | 0 => Nat.le_refl _
  | k + 1 => by unfold dn; have := dn_le xs v k; split <;> omega
theorem dn_mono (xs : List Int) {u v : Int} (h : u ≤ v) : ∀ k, dn xs u k ≤ dn xs v k
  | 0 => Nat.le_refl _
  | k + 1 => by
    unfold dn
    have ih := dn_mono xs h k
    by_cases c : (fstTo xs k k && decide (xs.getD k 0 < u)) = true
    · have c2 : (fstTo xs k k && decide (xs.getD k 0 < v)) = true := by
        simp only [Bool.and_eq_true, decide_eq_true_eq] at c ⊢
        exact ⟨c.1, by omega⟩
      rw [if_pos c, if_pos c2]; omega
    · rw [if_neg c]
      split <;> omega
theorem dn_lt (xs : List Int) {u v : Int} (h : u < v) {p : Nat} (hp : xs.getD p 0 = u) (hf : fstTo xs p p = true) : ∀ k, p < k → dn xs u k < dn xs v k
  | 0, hk => by omega
  | k + 1, hk => by
    unfold dn
    by_cases e : p = k
    · subst e
      rw [hf, hp]
      have := dn_mono xs (show u ≤ v by omega) p
      simp [h]; omega
    · have ih := dn_lt xs h hp hf k (by omega)
      by_cases c : (fstTo xs k k && decide (xs.getD k 0 < u)) = true
      · have c2 : (fstTo xs k k && decide (xs.getD k 0 < v)) = true := by
          simp only [Bool.and_eq_true, decide_eq_true_eq] at c ⊢
          exact ⟨c.1, by omega⟩
        rw [if_pos c, if_pos c2]; omega
      · rw [if_neg c]
        split <;> omega
theorem fstTo_of (xs : List Int) (k : Nat) : ∀ j, (∀ i, i < j → xs.getD i 0 ≠ xs.getD k 0) → fstTo xs k j = true
  | 0, _ => rfl
  | j + 1, h => by
    unfold fstTo
    rw [fstTo_of xs k j (fun i hi => h i (by omega)), Bool.true_and, bne_iff_ne]
    exact h j (Nat.lt_succ_self _)
theorem fst_at_ (xs : List Int) : ∀ (n : Nat), n < xs.length → ∃ p, p ≤ n ∧ xs.getD p 0 = xs.getD n 0 ∧ fstTo xs p p = true := by
  intro n
  induction n using Nat.strongRecOn with
  | ind n ih =>
    intro hn
    by_cases h : ∃ i, i < n ∧ xs.getD i 0 = xs.getD n 0
    · obtain ⟨i, hi, e⟩ := h
      obtain ⟨p, h1, h2, h3⟩ := ih i hi (by omega)
      exact ⟨p, by omega, h2.trans e, h3⟩
    · exact ⟨n, Nat.le_refl _, rfl, fstTo_of xs n n (fun i hi e => h ⟨i, hi, e⟩)⟩
theorem dn_iff (xs : List Int) {i j : Nat} (hi : i < xs.length) (_hj : j < xs.length) : xs.getD i 0 < xs.getD j 0 ↔ dn xs (xs.getD i 0) xs.length < dn xs (xs.getD j 0) xs.length := by
  constructor
  · intro h
    obtain ⟨p, h1, h2, h3⟩ := fst_at_ xs i hi
    exact dn_lt xs h h2 h3 xs.length (by omega)
  · intro h
    rcases Int.lt_or_le (xs.getD i 0) (xs.getD j 0) with c | c
    · exact c
    · have := dn_mono xs c xs.length; omega
theorem denseOf_len (xs : List Int) : (denseOf xs).length = xs.length := by simp [denseOf]
theorem rank_dense (xs : List Int) (a b : Int) : rankOf xs a < rankOf xs b ↔ rankOf (denseOf xs) a < rankOf (denseOf xs) b := by
  by_cases h : xs = []
  · subst h; rfl
  · have h' : denseOf xs ≠ [] := by unfold denseOf; simpa using h
    have hl : 0 < xs.length := List.length_pos_iff.2 h
    unfold rankOf
    rw [if_neg h, if_neg h, if_neg h', if_neg h', denseOf_len]
    have m1 : (a % (xs.length : Int)).toNat < xs.length := by have := Int.emod_lt_of_pos a (show (0 : Int) < xs.length by omega); have := Int.emod_nonneg a (show (xs.length : Int) ≠ 0 by omega); omega
    have m2 : (b % (xs.length : Int)).toNat < xs.length := by have := Int.emod_lt_of_pos b (show (0 : Int) < xs.length by omega); have := Int.emod_nonneg b (show (xs.length : Int) ≠ 0 by omega); omega
    have g : ∀ m, m < xs.length → (denseOf xs).getD m 0 = ((dn xs (xs.getD m 0) xs.length : Nat) : Int) := by
      intro m hm
      unfold denseOf
      rw [List.getD_eq_getElem?_getD, List.getElem?_map, List.getElem?_eq_getElem hm, List.getD_eq_getElem?_getD, List.getElem?_eq_getElem hm]; rfl
    rw [g _ m1, g _ m2, dn_iff xs m1 m2]
    omega
/-! trees by two orders that agree. -/
theorem cmp_same {xs ys : List Int} (H : ∀ a b, rankOf xs a < rankOf xs b ↔ rankOf ys a < rankOf ys b) (a b : Int) : cmpOf xs a b = cmpOf ys a b := by
  unfold cmpOf
  simp only [H a b, H b a]
theorem add_same {xs ys : List Int} (H : ∀ a b, cmpOf xs a b = cmpOf ys a b) (k : Int) (v : Value) (nb : Nat) : ∀ t : AT, t.add xs k v nb = t.add ys k v nb
  | .nil => rfl
  | .node b k2 v2 h l r => by unfold AT.add; rw [H, add_same H k v nb l, add_same H k v nb r]
theorem find_same {xs ys : List Int} (H : ∀ a b, cmpOf xs a b = cmpOf ys a b) (k : Int) : ∀ t : AT, t.find xs k = t.find ys k
  | .nil => rfl
  | .node b k2 v2 h l r => by unfold AT.find; rw [H, find_same H k l, find_same H k r]
theorem rem_same {xs ys : List Int} (H : ∀ a b, cmpOf xs a b = cmpOf ys a b) : ∀ (t : AT) (k : Int), t.rem xs k = t.rem ys k
  | .nil, _ => rfl
  | .node b k2 v2 h l r, k => by
    rw [AT.rem.eq_def]
    rw [AT.rem.eq_def ys]
    simp only
    rw [H, rem_same H l k, rem_same H r k, rem_same H r r.least.2.1]
theorem stepA_same {xs ys : List Int} (H : ∀ a b, cmpOf xs a b = cmpOf ys a b) (a : ActD) (nb : Nat) (t : AT) : stepA xs a nb t = stepA ys a nb t := by
  unfold stepA
  rw [add_same H, rem_same H, show t.get xs a.key = t.get ys a.key by unfold AT.get; rw [find_same H]]
theorem runA_same {xs ys : List Int} (H : ∀ a b, cmpOf xs a b = cmpOf ys a b) : ∀ (l : List ActD) (t : AT), runA xs t l = runA ys t l
  | [], _ => rfl
  | a :: l, t => by unfold runA; simp only [stepA_same H, runA_same H l]
section
variable {r q : Int → Int}
theorem jl_same (H : ∀ a b, r a < r b ↔ q a < q b) (k : Int) (es : List LE) : jl r k es = jl q k es := by
  unfold jl
  congr 1
  funext e
  have := H e.1 k
  by_cases c : r k ≤ r e.1
  · rw [decide_eq_true c, decide_eq_true (by omega)]
  · rw [decide_eq_false c, decide_eq_false (by omega)]
theorem ji_same (H : ∀ a b, r a < r b ↔ q a < q b) {α : Type} (k : Int) (ks : List (Int × α)) : ji r k ks = ji q k ks := by
  unfold ji
  congr 1
  funext e
  have := H k e.1
  by_cases c : r k < r e.1
  · rw [decide_eq_true c, decide_eq_true (by omega)]
  · rw [decide_eq_false c, decide_eq_false (by omega)]
theorem eq_same (H : ∀ a b, r a < r b ↔ q a < q b) (a b : Int) : (r a = r b) ↔ (q a = q b) := by
  have h1 := H a b
  have h2 := H b a
  omega
theorem insL_same (H : ∀ a b, r a < r b ↔ q a < q b) (k v : Int) (b : Bool) (es : List LE) : Bt.insL r k v b es = Bt.insL q k v b es := by
  unfold Bt.insL
  rw [jl_same H]
  cases es[jl q k es]? with
  | none => rfl
  | some e =>
    simp only
    by_cases c : r e.1 = r k
    · rw [if_pos c, if_pos ((eq_same H _ _).1 c)]
    · rw [if_neg c, if_neg (fun h => c ((eq_same H _ _).2 h))]
theorem insN_same (H : ∀ a b, r a < r b ↔ q a < q b) {α : Type} (ins : α → α × Option α) (fk : α → Int) (k : Int) (ks : List (Int × α)) : insN r ins fk k ks = insN q ins fk k ks := by
  unfold insN; rw [ji_same H]
theorem getN_same (H : ∀ a b, r a < r b ↔ q a < q b) {α : Type} (get : α → Int × Bool) (k : Int) (ks : List (Int × α)) : getN r get k ks = getN q get k ks := by
  unfold getN; rw [ji_same H]
theorem getLf_same (H : ∀ a b, r a < r b ↔ q a < q b) (k : Int) (es : List LE) : getLf r k es = getLf q k es := by
  unfold getLf
  rw [jl_same H]
  cases es[jl q k es]? with
  | none => rfl
  | some e =>
    simp only
    by_cases c : r e.1 = r k
    · rw [if_pos c, if_pos ((eq_same H _ _).1 c)]
    · rw [if_neg c, if_neg (fun h => c ((eq_same H _ _).2 h))]
theorem insE_same (H : ∀ a b, r a < r b ↔ q a < q b) (k v : Int) (b : Bool) : ∀ (h : Nat) (t : BE h), insE r h t k v b = insE q h t k v b
  | 0, es => insL_same H k v b es
  | h + 1, ks => by
    have e : (fun t => insE r h t k v b) = fun t => insE q h t k v b := funext fun t => insE_same H k v b h t
    show insN r (fun t => insE r h t k v b) (fstK h) k ks = insN q (fun t => insE q h t k v b) (fstK h) k ks
    rw [e]
    exact insN_same H _ _ k ks
theorem getE_same (H : ∀ a b, r a < r b ↔ q a < q b) (k : Int) : ∀ (h : Nat) (t : BE h), getE r h t k = getE q h t k
  | 0, es => getLf_same H k es
  | h + 1, ks => by
    have e : (fun t => getE r h t k) = fun t => getE q h t k := funext fun t => getE_same H k h t
    show getN r (fun t => getE r h t k) k ks = getN q (fun t => getE q h t k) k ks
    rw [e]
    exact getN_same H _ k ks
theorem stepB_same (H : ∀ a b, r a < r b ↔ q a < q b) (a : ActD) (s : Bt.BT) : stepB r a s = stepB q a s := by
  unfold stepB putB remB
  rw [insE_same H, insE_same H a.key 0 false, getE_same H]
theorem runB_sameO (H : ∀ a b, r a < r b ↔ q a < q b) : ∀ (l : List ActD) (s : Bt.BT), runB r s l = runB q s l
  | [], _ => rfl
  | a :: l, s => by unfold runB; simp only [stepB_same H, runB_sameO H l]
end
theorem dense_same (xs : List Int) (l : List ActD) : runN (denseOf xs) l = runN xs l ∧ (runB (rankOf (denseOf xs)) newB l).2 = (runB (rankOf xs) newB l).2 := by
  refine ⟨?_, ?_⟩
  · unfold runN
    rw [runA_same (cmp_same fun a b => (rank_dense xs a b).symm)]
  · rw [runB_sameO fun a b => (rank_dense xs a b).symm]
end Go.Proofs.Ytjbelfbfhcmgeaa.Kp
namespace Go.Proofs.Ytjbelfbfhcmgeaa.Kp
open Go.RowKit Om Bt

theorem cells2_drew {w3 w : World} {p0 p1 : Addr} {v0 v1 : Value} (m : Nat) (h : w.cell? p0 = some v0 ∧ w.cell? p1 = some v1 ∧ ∃ n, w = w3.drewN n) :
    (w.drewN m).cell? p0 = some v0 ∧ (w.drewN m).cell? p1 = some v1 ∧ ∃ n, w.drewN m = w3.drewN n := by
  obtain ⟨h0, h1, n, rfl⟩ := h
  exact ⟨h0, h1, _, World.drewN_drewN _ _ _⟩
theorem slr_at {w : World} {B n c : Nat} {A : Option Addr} {xs : List Int} (h : SlR w B (.slice A n c) (xs.map i64v)) {i : Nat} (hi : i < xs.length) : ∃ b off, A = some ⟨b, off, none⟩ ∧ xs.length ≤ c ∧ w.cell? ⟨b, off + i, none⟩ = some (.int .i64 (xs.getD i 0)) := by
  obtain ⟨b, off, e, h1, _, h2⟩ := SlI.at_ h.toI hi
  exact ⟨b, off, e, h1, by rw [h2, List.getD_eq_getElem?_getD, List.getElem?_eq_getElem hi]; rfl⟩
theorem own_SlR' {w : World} {B : Nat} {v : Value} {xs : List Int} (hl : xs.length ≤ 17592186044416) (h : w.ownsRow B 3 1 v xs.length (xs.map i64v)) : SlR w w.heap.size v (xs.map i64v) := by
  obtain ⟨A, c, e, h2⟩ := (own_I h).is
  refine ⟨A, c, by rw [List.length_map]; exact e, ?_⟩
  rcases h2 with rfl | ⟨b, off, e1, h1, h3, h4, h5⟩
  · exact .inl rfl
  · refine .inr ⟨b, off, e1, by rw [List.length_map]; exact h1, by rw [List.length_map]; exact hl, h3, h4, fun i hi => ?_⟩
    rw [List.length_map] at hi
    have := h5 i xs[i] (List.getElem?_eq_getElem hi) 0 _ rfl
    rw [Nat.mul_one, Nat.add_zero] at this
    rw [this, List.getElem?_map, List.getElem?_eq_getElem hi]; rfl
set_option maxRecDepth 100000 in
set_option maxHeartbeats 3200000 in
theorem dense_calls (xs : List Int) (tv : Value) (w : World) (ht : SlR w w.heap.size tv (xs.map i64v)) (hn : xs.length ≤ 5000000000) :
    Calls Try.prog 19 #[tv] w fun e w' => ∃ v, e = .returned v ∧ SlR w' w'.heap.size v ((denseOf xs).map i64v) ∧ Below w.heap.size w w' := by
  obtain ⟨A, c, rfl⟩ := ht.form
  rw [List.length_map] at *
  obtain ⟨i0, hi0, hz0, hz1, hz2⟩ := info_parts Try.info3
  have HT := Lib.hid ht
  clear ht
  go_enter Try.func19, Try.ntmps19
  go_wp2_with fail
  go_loopw [3, 4] (fun v i wx => ∃ k : Nat, k ≤ xs.length ∧ i = .int .i64 (k : Nat) ∧ Hid (wx.ownsRow w.heap.size 3 1 v k (((denseOf xs).take k).map i64v) ∧ Below w.heap.size w wx)) (fun _ i _ => xs.length - (intOf i).toNat)
  case atStart => exact ⟨0, Nat.zero_le _, rfl, Lib.hid ⟨World.ownsRow_nil _ _ _ _, Below.refl _ _⟩⟩
  case round =>
    obtain ⟨i, hi, rfl, HK⟩ := hrel
    by_cases hlt : i < xs.length
    · obtain ⟨b, off, rfl, hc, _⟩ := slr_at HT.out hlt
      have HTr := Lib.hid (HT.out.below HK.out.2)
      obtain ⟨W0, hW0⟩ : ∃ W0, W0 = wr := ⟨_, rfl⟩
      have HKW := Lib.hid (show W0.ownsRow w.heap.size 3 1 u3 i (((denseOf xs).take i).map i64v) ∧ Below w.heap.size w W0 by rw [hW0]; exact HK.out)
      rw [← hW0] at HTr ⊢
      clear HK hW0
      have pi0 : (0 : Int) ≤ (i : Int) := by omega
      have pi1 : (i : Int) < (xs.length : Int) := by omega
      go_wp2_with fail
      go_loopw [5, 6] (fun n k wx => ∃ (k' : Nat), k' ≤ xs.length ∧ n = .int .i64 ((dn xs (xs.getD i 0) k' : Nat) : Int) ∧ k = .int .i64 (k' : Nat) ∧ ∃ m, wx = W0.drewN m) (fun _ k _ => xs.length - (intOf k).toNat)
      case atStart => exact ⟨0, Nat.zero_le _, rfl, rfl, 0, rfl⟩
      case round =>
        obtain ⟨k, hk, rfl, rfl, m1, hm1⟩ := hrel
        by_cases hltk : k < xs.length
        · have pk0 : (0 : Int) ≤ (k : Int) := by omega
          have pk1 : (k : Int) < (xs.length : Int) := by omega
          have HM := Lib.hid hm1
          clear hm1
          go_wp2_with fail
          go_loopw [7, 8] (fun f j wx => ∃ (j' : Nat), j' ≤ k ∧ f = .bool (fstTo xs k j') ∧ j = .int .i64 (j' : Nat) ∧ ∃ m, wx = W0.drewN m) (fun _ j _ => k - (intOf j).toNat)
          case atStart => exact ⟨0, Nat.zero_le _, rfl, rfl, m1, HM.out⟩
          case round =>
            obtain ⟨j, hj, rfl, rfl, m2, hm2⟩ := hrel
            obtain ⟨b2, off2, hbo, _, z2⟩ := slr_at HTr.out hltk
            obtain ⟨rfl, rfl⟩ : b = b2 ∧ off = off2 := by simpa using hbo
            replace z2 : wr.cell? ⟨b, off + k, none⟩ = some (.int .i64 (xs.getD k 0)) := by rw [hm2]; exact z2
            clear hbo
            by_cases hltj : j < k
            · obtain ⟨b2, off2, hbo, _, z1⟩ := slr_at HTr.out (show j < xs.length by omega)
              obtain ⟨rfl, rfl⟩ : b = b2 ∧ off = off2 := by simpa using hbo
              replace z1 : wr.cell? ⟨b, off + j, none⟩ = some (.int .i64 (xs.getD j 0)) := by rw [hm2]; exact z1
              clear hbo
              have pj0 : (0 : Int) ≤ (j : Int) := by omega
              have pj1 : (j : Int) < (xs.length : Int) := by omega
              have HM2 := Lib.hid hm2
              have HF := Lib.hid (show fstTo xs k (j + 1) = (fstTo xs k j && (xs.getD j 0 != xs.getD k 0)) from rfl)
              clear hm2
              generalize xs.getD j 0 = xj at *
              generalize xs.getD k 0 = xk at *
              generalize hf : fstTo xs k j = fj at *
              clear hf
              go_wp2_with fail
              cases fj
              · refine region_runs (S := (fun w' => w'.cell? ⟨b, off + j, none⟩ = some (.int .i64 xj) ∧ w'.cell? ⟨b, off + k, none⟩ = some (.int .i64 xk) ∧ ∃ n, w' = wr.drewN n)) (by kernel_rfl) (by kernel_rfl) (by kernel_rfl) (cells2_drew 1 ⟨z1, z2, 0, rfl⟩) ?_
                iterate 13
                  first
                  | (refine Runs.off (by rfl) ?_
                     simp only [Act.put, List.setIfInBounds_toArray, List.set_cons_zero, List.set_cons_succ])
                  | (refine Runs.take (v := ?_) (by rfl) ?_ ?_
                     rotate_left 1
                     · intro w hSw; (try dsimp only at hSw); go_simp; (try with_reducible rfl)
                     simp only [Act.put, List.setIfInBounds_toArray, List.set_cons_zero, List.set_cons_succ])
                  | fail
                dsimp only [Runs]
                intro w' hH
                obtain ⟨_, _, nn, rfl⟩ := hH
                go_wp2_with fail
                exact ⟨⟨j + 1, by omega, by rw [HF.out]; rfl, by go_num, _, by rw [HM2.out]; exact World.drewN_drewN _ _ _⟩, by simp [intOf]; omega⟩
              · refine region_runs (S := (fun w' => w'.cell? ⟨b, off + j, none⟩ = some (.int .i64 xj) ∧ w'.cell? ⟨b, off + k, none⟩ = some (.int .i64 xk) ∧ ∃ n, w' = wr.drewN n)) (by kernel_rfl) (by kernel_rfl) (by kernel_rfl) (cells2_drew 1 ⟨z1, z2, 0, rfl⟩) ?_
                iterate 13
                  first
                  | (refine Runs.off (by rfl) ?_
                     simp only [Act.put, List.setIfInBounds_toArray, List.set_cons_zero, List.set_cons_succ])
                  | (refine Runs.take (v := ?_) (by rfl) ?_ ?_
                     rotate_left 1
                     · intro w hSw; (try dsimp only at hSw); go_simp; (try with_reducible rfl)
                     simp only [Act.put, List.setIfInBounds_toArray, List.set_cons_zero, List.set_cons_succ])
                  | fail
                dsimp only [Runs]
                intro w' hH
                obtain ⟨_, _, nn, rfl⟩ := hH
                go_wp2_with fail
                exact ⟨⟨j + 1, by omega, by rw [HF.out]; first | rfl | simp, by go_num, _, by rw [HM2.out]; exact World.drewN_drewN _ _ _⟩, by simp [intOf]; omega⟩
            · have : j = k := by omega
              subst this
              obtain ⟨b2, off2, hbo, _, z1⟩ := slr_at HTr.out hlt
              obtain ⟨rfl, rfl⟩ : b = b2 ∧ off = off2 := by simpa using hbo
              replace z1 : wr.cell? ⟨b, off + i, none⟩ = some (.int .i64 (xs.getD i 0)) := by rw [hm2]; exact z1
              clear hbo
              have HM2 := Lib.hid hm2
              clear hm2
              obtain ⟨xi, hxi⟩ : ∃ x, x = xs.getD i 0 := ⟨_, rfl⟩
              obtain ⟨xj, hxj⟩ : ∃ x, x = xs.getD j 0 := ⟨_, rfl⟩
              obtain ⟨fj, hfj⟩ : ∃ x, x = fstTo xs j j := ⟨_, rfl⟩
              obtain ⟨dj, hdj⟩ : ∃ x, x = dn xs (xs.getD i 0) j := ⟨_, rfl⟩
              have hd : dj ≤ j := by rw [hdj]; exact dn_le xs _ j
              have HF := Lib.hid (show dn xs (xs.getD i 0) (j + 1) = dj + if fj && decide (xj < xi) then 1 else 0 by rw [hdj, hxi, hxj, hfj]; rfl)
              rw [← hxi] at z1
              rw [← hxj] at z2
              rw [← hfj, ← hdj]
              clear hxi hxj hfj hdj
              go_wp2_with fail
              cases fj
              · refine region_runs (S := (fun w' => w'.cell? ⟨b, off + i, none⟩ = some (.int .i64 xi) ∧ w'.cell? ⟨b, off + j, none⟩ = some (.int .i64 xj) ∧ ∃ n, w' = wr.drewN n)) (by kernel_rfl) (by kernel_rfl) (by kernel_rfl) (cells2_drew 1 ⟨z1, z2, 0, rfl⟩) ?_
                iterate 12
                  first
                  | (refine Runs.off (by rfl) ?_
                     simp only [Act.put, List.setIfInBounds_toArray, List.set_cons_zero, List.set_cons_succ])
                  | (refine Runs.take (v := ?_) (by rfl) ?_ ?_
                     rotate_left 1
                     · intro w hSw; (try dsimp only at hSw); go_simp; (try with_reducible rfl)
                     simp only [Act.put, List.setIfInBounds_toArray, List.set_cons_zero, List.set_cons_succ])
                  | fail
                dsimp only [Runs]
                intro w' hH
                obtain ⟨_, _, nn, rfl⟩ := hH
                go_wp2_with fail
                exact ⟨⟨j + 1, by omega, by rw [HF.out]; simp, by go_num, _, by rw [HM2.out]; exact World.drewN_drewN _ _ _⟩, by simp [intOf]; omega⟩
              · by_cases cx : xj < xi
                · have e1 : decide (xj < xi) = true := decide_eq_true cx
                  refine region_runs (S := (fun w' => w'.cell? ⟨b, off + i, none⟩ = some (.int .i64 xi) ∧ w'.cell? ⟨b, off + j, none⟩ = some (.int .i64 xj) ∧ ∃ n, w' = wr.drewN n)) (by kernel_rfl) (by kernel_rfl) (by kernel_rfl) (cells2_drew 1 ⟨z1, z2, 0, rfl⟩) ?_
                  iterate 12
                    first
                    | (refine Runs.off (by rfl) ?_
                       simp only [Act.put, List.setIfInBounds_toArray, List.set_cons_zero, List.set_cons_succ])
                    | (refine Runs.take (v := ?_) (by rfl) ?_ ?_
                       rotate_left 1
                       · intro w hSw; (try dsimp only at hSw); go_simp; (try with_reducible rfl)
                       simp only [Act.put, List.setIfInBounds_toArray, List.set_cons_zero, List.set_cons_succ])
                    | fail
                  dsimp only [Runs]
                  intro w' hH
                  obtain ⟨_, _, nn, rfl⟩ := hH
                  go_wp2_with fail
                  exact ⟨⟨j + 1, by omega, by rw [HF.out, e1]; simp, by go_num, _, by rw [HM2.out]; exact World.drewN_drewN _ _ _⟩, by simp [intOf]; omega⟩
                · have e1 : decide (xj < xi) = false := decide_eq_false cx
                  refine region_runs (S := (fun w' => w'.cell? ⟨b, off + i, none⟩ = some (.int .i64 xi) ∧ w'.cell? ⟨b, off + j, none⟩ = some (.int .i64 xj) ∧ ∃ n, w' = wr.drewN n)) (by kernel_rfl) (by kernel_rfl) (by kernel_rfl) (cells2_drew 1 ⟨z1, z2, 0, rfl⟩) ?_
                  iterate 12
                    first
                    | (refine Runs.off (by rfl) ?_
                       simp only [Act.put, List.setIfInBounds_toArray, List.set_cons_zero, List.set_cons_succ])
                    | (refine Runs.take (v := ?_) (by rfl) ?_ ?_
                       rotate_left 1
                       · intro w hSw; (try dsimp only at hSw); go_simp; (try with_reducible rfl)
                       simp only [Act.put, List.setIfInBounds_toArray, List.set_cons_zero, List.set_cons_succ])
                    | fail
                  dsimp only [Runs]
                  intro w' hH
                  obtain ⟨_, _, nn, rfl⟩ := hH
                  go_wp2_with fail
                  exact ⟨⟨j + 1, by omega, by rw [HF.out, e1]; simp, by go_num, _, by rw [HM2.out]; exact World.drewN_drewN _ _ _⟩, by simp [intOf]; omega⟩
        · have : k = xs.length := by omega
          subst this
          have hsn : ((denseOf xs).take (i + 1)).map i64v = ((denseOf xs).take i).map i64v ++ [.int .i64 ((dn xs (xs.getD i 0) xs.length : Nat) : Int)] := by
            have hg : (denseOf xs)[i]? = some ((dn xs (xs.getD i 0) xs.length : Nat) : Int) := by
              unfold denseOf
              rw [List.getElem?_map, List.getElem?_eq_getElem hlt, List.getD_eq_getElem?_getD, List.getElem?_eq_getElem hlt]; rfl
            rw [List.take_add_one, hg, List.map_append]; rfl
          have HSN := Lib.hid hsn
          have HKr := Lib.hid (show wr.ownsRow w.heap.size 3 1 u3 i (((denseOf xs).take i).map i64v) ∧ Below w.heap.size w wr by rw [hm1]; exact ⟨HKW.out.1, HKW.out.2.trans (Below.drewN _ _)⟩)
          clear hsn HKW HTr hm1
          generalize dn xs (xs.getD i 0) xs.length = dv at *
          go_wp2_with (at_builtin; refine wpList_append_own _ rfl (.tmp 52) (.tmp 54) 22 rfl w.heap.size 3 i0 _ 1 8 Try.underlying22 hi0 hz0 hz1 hz2 rfl (by omega) u3 i _ rfl (HKr.out.1.alloc _) ⟨wr.heap.size, 0, none⟩ 1 1 [.int .i64 (dv : Nat)] rfl rfl (news_blk (Blk.new wr _ _)) (by simp [Value.oneCell']) (by unfold maxLen; omega) (by omega) (by have := HKr.out.2.size; simp; omega) ?_; intro v9 w9 hown9 hgrow9 _)
          refine ⟨⟨i + 1, by omega, by go_num, Lib.hid ⟨by rw [HSN.out]; exact hown9, (HKr.out.2.alloc HKr.out.2.size _).grown hgrow9 (by have := HKr.out.2.size; simp; omega) (fun g hg => (HKr.out.1.lt g hg).1)⟩⟩, by simp [intOf]; omega⟩
    · have : i = xs.length := by omega
      subst this
      have h := HK.out
      rw [← denseOf_len, List.take_length] at h
      have HO := Lib.hid (And.intro (show wr.ownsRow w.heap.size 3 1 u3 (denseOf xs).length ((denseOf xs).map i64v) from h.1) h.2)
      clear h HK
      go_wp2_with fail
      go_ret
      exact ⟨_, rfl, own_SlR' (by rw [denseOf_len]; omega) HO.out.1, HO.out.2⟩
theorem sameEq (xs : List Int) (av bv : Value) (B B' : Nat) (w : World) (ha : SlI w B av xs) (hb : SlI w B' bv xs) (hn : xs.length ≤ 9223372036854775807) :
    Calls Try.prog 25 #[av, bv] w fun e w' => e = .returned (.bool true) ∧ ∃ n, w' = w.drewN n :=
  (same_calls xs xs av bv B B' w ha hb hn).mono fun _ _ h => by simpa using h
set_option maxRecDepth 100000 in
set_option maxHeartbeats 1600000 in
theorem treeSame_calls (d : ToldD) (ka va kb vb : Value) (w : World) (h1 : SlI w w.heap.size ka d.keys) (h2 : SlI w w.heap.size va d.vals) (h3 : SlI w w.heap.size kb d.keys) (h4 : SlI w w.heap.size vb d.vals) (hk : d.keys.length ≤ 9223372036854775807) (hv : d.vals.length ≤ 9223372036854775807) :
    Calls Try.prog 21 #[.agg #[.int .i64 d.val, .bool d.ok, ka, va], .agg #[.int .i64 d.val, .bool d.ok, kb, vb]] w fun e' w' => e' = .returned (.bool true) ∧ Below w.heap.size w w' := by
  obtain ⟨dv, dk, dks, dvs⟩ := d
  simp only at *
  obtain ⟨A1, c1, rfl⟩ := h1.form
  obtain ⟨A2, c2, rfl⟩ := h2.form
  obtain ⟨A3, c3, rfl⟩ := h3.form
  obtain ⟨A4, c4, rfl⟩ := h4.form
  have hW : Below w.heap.size w ((w.alloc (.cells #[.int .i64 dv, .bool dk, .slice A1 dks.length c1, .slice A2 dvs.length c2] 50)).alloc (.cells #[.int .i64 dv, .bool dk, .slice A3 dks.length c3, .slice A4 dvs.length c4] 50)) := ((Below.refl _ w).alloc (Nat.le_refl _) _).alloc (by simp) _
  have z1 := (Blk.new w #[.int .i64 dv, .bool dk, .slice A1 dks.length c1, .slice A2 dvs.length c2] 50).alloc (.cells #[.int .i64 dv, .bool dk, .slice A3 dks.length c3, .slice A4 dvs.length c4] 50)
  have z2 := blk_new1' w (.cells #[.int .i64 dv, .bool dk, .slice A1 dks.length c1, .slice A2 dvs.length c2] 50) #[.int .i64 dv, .bool dk, .slice A3 dks.length c3, .slice A4 dvs.length c4] 50
  have HZ := Lib.hid (And.intro z1 (And.intro z2 hW))
  have HS := Lib.hid (And.intro (h1.below hW) (And.intro (h2.below hW) (And.intro (h3.below hW) (h4.below hW))))
  have e1 : (dk == dk) = true := by simp
  have e2 : (dv == dv) = true := by simp
  have HK := Lib.hid (And.intro hk hv)
  clear z1 z2 hW h1 h2 h3 h4 hk hv
  go_enter Try.func21, Try.ntmps21
  go_upto_region 1 with (fail)
  generalize (w.alloc (.cells #[.int .i64 dv, .bool dk, .slice A1 dks.length c1, .slice A2 dvs.length c2] 50)).alloc (.cells #[.int .i64 dv, .bool dk, .slice A3 dks.length c3, .slice A4 dvs.length c4] 50) = W at *
  have a0 : W.cell? ⟨w.heap.size, 0, none⟩ = some (.int .i64 dv) := HZ.out.1.cell 0
  have a1 : W.cell? ⟨w.heap.size, 1, none⟩ = some (.bool dk) := HZ.out.1.cell 1
  have a2 : W.cell? ⟨w.heap.size, 2, none⟩ = some (.slice A1 dks.length c1) := HZ.out.1.cell 2
  have a3 : W.cell? ⟨w.heap.size, 3, none⟩ = some (.slice A2 dvs.length c2) := HZ.out.1.cell 3
  have b0 : W.cell? ⟨w.heap.size + 1, 0, none⟩ = some (.int .i64 dv) := HZ.out.2.1.cell 0
  have b1 : W.cell? ⟨w.heap.size + 1, 1, none⟩ = some (.bool dk) := HZ.out.2.1.cell 1
  have b2 : W.cell? ⟨w.heap.size + 1, 2, none⟩ = some (.slice A3 dks.length c3) := HZ.out.2.1.cell 2
  have b3 : W.cell? ⟨w.heap.size + 1, 3, none⟩ = some (.slice A4 dvs.length c4) := HZ.out.2.1.cell 3
  go_wp2_with fail
  refine (sameEq dks _ _ _ _ W HS.out.1 HS.out.2.2.1 HK.out.1).mono ?_
  rintro e' w1 ⟨rfl, n1, rfl⟩
  have H2 := Lib.hid (sameEq dvs _ _ _ _ (W.drewN n1) (HS.out.2.1.below (Below.drewN W n1)) (HS.out.2.2.2.below (Below.drewN W n1)) HK.out.2)
  have HB := Lib.hid (HZ.out.2.2.trans (Below.drewN W n1))
  replace a3 : (W.drewN n1).cell? ⟨w.heap.size, 3, none⟩ = some (.slice A2 dvs.length c2) := a3
  replace b3 : (W.drewN n1).cell? ⟨w.heap.size + 1, 3, none⟩ = some (.slice A4 dvs.length c4) := b3
  clear HS HZ a0 a1 a2 b0 b1 b2
  generalize W.drewN n1 = V at *
  go_wp2_with fail
  refine H2.out.mono ?_
  rintro e' w1 ⟨rfl, n2, rfl⟩
  go_wp2_with fail
  go_ret
  exact ⟨rfl, HB.out.trans (Below.drewN _ _)⟩
end Go.Proofs.Ytjbelfbfhcmgeaa.Kp
