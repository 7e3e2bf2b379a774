/- spec.Least and the law FnAvlLow: the walks. -/
import Derived.Test.YtpnmgfiifaljjaaLow0
namespace Go.Proofs.Ytpnmgfiifaljjaa
open Go.RowKit

theorem leanP_bd : ∀ n, n ≤ 60 → (leanP n).1 ≤ 5000000000000 ∧ (leanP n).2 ≤ 6600000000000 := by decide
set_option maxHeartbeats 1000000 in
theorem least_calls' (h : Int) (w : World) (h0 : 0 ≤ h) (h1 : h ≤ 60) :
    Calls Try.prog 12 #[.int .i64 h] w fun e w' => e = .returned (.int .i64 (lean h.toNat)) ∧ w = w' := by
  obtain ⟨n, rfl⟩ := Int.eq_ofNat_of_zero_le h0
  rw [Int.toNat_natCast]
  have hn : n ≤ 60 := by omega
  go_enter Try.func12, Try.ntmps12
  go_wp2_with fail
  go_loop [3, 4, 5] (fun a b i => ∃ k : Nat, k ≤ n ∧ i = .int .i64 k ∧ a = .int .i64 (leanP k).1 ∧ b = .int .i64 (leanP k).2) (fun _ _ i => n - (intOf i).toNat)
  case atStart => exact ⟨0, Nat.zero_le _, rfl, rfl, rfl⟩
  case round =>
    obtain ⟨k, hk, rfl, rfl, rfl⟩ := hrel
    by_cases hlt : k < n
    · have hb := leanP_bd k (by omega)
      have hd : decide ((k : Int) ≥ 90) = false := by simp; omega
      have hd2 : decide (90 ≤ (k : Int)) = false := by simp; omega
      have H := Lib.hid (show leanP (k + 1) = ((leanP k).2, (leanP k).1 + (leanP k).2 + 1) from rfl)
      generalize leanP k = q at *
      obtain ⟨qa, qb⟩ := q
      go_wp2
      go_round
      case rel => exact ⟨k + 1, by omega, by go_num, by rw [H.out], by rw [H.out]; go_num⟩
      case measure => simp [intOf]; omega
    · have e : k = n := by omega
      subst e
      go_wp2
      go_ret
      exact ⟨rfl, rfl⟩
/-- a slice of this call's own that holds steps, read as one that came in. -/
def actCells (l : List ActD) : List Value := l.flatMap fun a => [.int .i64 a.act, .int .i64 a.key, .int .i64 a.val]
theorem actCells_len : ∀ l, (actCells l).length = l.length * 3
  | [] => rfl
  | a :: l => by show (_ :: _ :: _ :: actCells l).length = _; simp [actCells_len l]; omega
theorem actCells_get : ∀ (l : List ActD) (i : Nat) (a : ActD), l[i]? = some a → (actCells l)[i * 3]? = some (.int .i64 a.act) ∧ (actCells l)[i * 3 + 1]? = some (.int .i64 a.key) ∧ (actCells l)[i * 3 + 2]? = some (.int .i64 a.val)
  | [], i, a, h => by simp at h
  | b :: l, 0, a, h => by simp at h; subst h; exact ⟨rfl, rfl, rfl⟩
  | b :: l, i + 1, a, h => by
    have := actCells_get l i a (by simpa using h)
    rw [show (i + 1) * 3 = i * 3 + 1 + 1 + 1 by omega]
    exact this
theorem actCells_append (a b : List ActD) : actCells (a ++ b) = actCells a ++ actCells b := by simp [actCells]
theorem own_SlA {w : World} {B : Nat} {v : Value} {l : List ActD} (h : w.ownsRow B 29 3 v l.length (actCells l)) : SlA w w.heap.size v l := by
  rcases h.2 with ⟨e, h0⟩ | ⟨g, cap, cur, e, h1, h2, h3, h4, h5, h6⟩
  · have := List.length_eq_zero_iff.1 h0
    subst this
    exact ⟨⟨_, _, e, .inl rfl⟩⟩
  · have hl : g < w.heap.size := (Array.getElem?_eq_some_iff.1 h2).1
    refine ⟨⟨_, cap, e, .inr ⟨g, 0, rfl, h3, hl, hl, fun i a hi => ?_⟩⟩⟩
    have hil : i < l.length := (List.getElem?_eq_some_iff.1 hi).1
    obtain ⟨a0, a1, a2⟩ := actCells_get l i a hi
    have key : ∀ j x, j < l.length * 3 → (actCells l)[j]? = some x → w.cell? ⟨g, 0 + j, none⟩ = some x := by
      intro j x hj hx
      rw [← h6, List.getElem?_take_of_lt hj] at hx
      rw [show (⟨g, 0 + j, none⟩ : Addr) = ⟨g, j, none⟩ by simp]
      have : w.cell? ⟨g, j, none⟩ = cur[j]? := (show Blk w g cur _ from h2).cell j
      rw [this, ← hx]; simp
    refine ⟨key _ _ (by omega) a0, ?_, ?_⟩
    · have := key _ _ (by omega) a1; rw [← Nat.add_assoc] at this; exact this
    · have := key _ _ (by omega) a2; rw [← Nat.add_assoc] at this; exact this
/-- what was told, place by place. -/
theorem TR.get {w : World} {B : Nat} : ∀ {ds : List ToldD} {cs : List Value} {i : Nat} {d : ToldD}, TR w B ds cs → ds[i]? = some d → cs[i * 4]? = some (.int .i64 d.val) ∧ cs[i * 4 + 1]? = some (.bool d.ok)
  | [], _, _, _, _, h => by simp at h
  | _ :: _, cs, 0, d, ⟨ka, kc, va, vc, rest, e, _, _, _⟩, h => by simp at h; subst h; rw [e]; exact ⟨rfl, rfl⟩
  | _ :: ds, cs, i + 1, d, ⟨ka, kc, va, vc, rest, e, _, _, h3⟩, h => by
    have := TR.get h3 (by simpa using h)
    rw [e, show (i + 1) * 4 = i * 4 + 1 + 1 + 1 + 1 by omega]
    exact this
theorem Tolds.is {w : World} {B : Nat} {v : Value} {ds : List ToldD} (h : Tolds w B v ds) (hn : ds ≠ []) : ∃ g cap, v = .slice (some ⟨g, 0, none⟩) ds.length cap ∧ ds.length ≤ cap ∧ ∀ i d, ds[i]? = some d → w.cell? ⟨g, i * 4, none⟩ = some (.int .i64 d.val) ∧ w.cell? ⟨g, i * 4 + 1, none⟩ = some (.bool d.ok) := by
  obtain ⟨cs, ho, ht⟩ := h
  rcases ho.2 with ⟨e, h0⟩ | ⟨g, cap, cur, e, h1, h2, h3, h4, h5, h6⟩
  · exact absurd (List.length_eq_zero_iff.1 h0) hn
  · refine ⟨g, cap, e, h3, fun i d hi => ?_⟩
    have hil : i < ds.length := (List.getElem?_eq_some_iff.1 hi).1
    obtain ⟨a0, a1⟩ := ht.get hi
    have key : ∀ j x, j < ds.length * 4 → cs[j]? = some x → w.cell? ⟨g, j, none⟩ = some x := by
      intro j x hj hx
      rw [← h6, List.getElem?_take_of_lt hj] at hx
      have : w.cell? ⟨g, j, none⟩ = cur[j]? := (show Blk w g cur _ from h2).cell j
      rw [this, ← hx]; simp
    exact ⟨key _ _ (by omega) a0, key _ _ (by omega) a1⟩
theorem Try.infoAct : (Try.prog.info? 29).map (fun i => (i.zero, i.size, i.bytes)) = some (some (.agg #[.int .i64 0, .int .i64 0, .int .i64 0]), 3, 24) := by kernel_rfl
set_option maxRecDepth 100000 in
set_option maxHeartbeats 3200000 in
theorem low_calls (xs : List Int) (ov av : Value) (l : List ActD) (w : World) (ho : SlR w w.heap.size ov (xs.map i64v)) (ha : SlA w w.heap.size av l) :
    Calls Try.prog 4 #[ov, av] w fun e w' => e = .returned (.bool true) ∧ Below w.heap.size w w' := by
  have hs := ho.form
  have hs2 := ha.form
  rw [List.length_map] at hs
  obtain ⟨A, c, rfl⟩ := hs
  obtain ⟨A2, c2, rfl⟩ := hs2
  have HO := Lib.hid ho
  have HA := Lib.hid ha
  clear ho ha
  by_cases b1 : (xs.length : Int) ≤ 2147483647
  case neg =>
    go_enter Try.func4, Try.ntmps4
    go_wp2
    go_ret
    exact ⟨rfl, Below.refl _ _⟩
  by_cases b2 : (l.length : Int) ≤ 2147483647
  case neg =>
    go_enter Try.func4, Try.ntmps4
    go_wp2
    go_ret
    exact ⟨rfl, Below.refl _ _⟩
  obtain ⟨i0, hi0, hz0, hz1, hz2⟩ := info_parts Try.infoAct
  go_enter Try.func4, Try.ntmps4
  go_wp2_with fail
  go_loopw [5, 6] (fun v i wr => ∃ k : Nat, k ≤ l.length ∧ i = .int .i64 k ∧ wr.ownsRow w.heap.size 29 3 v (3 * k) (actCells (asksOf (l.take k))) ∧ Below w.heap.size w wr) (fun _ i _ => l.length - (intOf i).toNat)
  case atStart => exact ⟨0, Nat.zero_le _, rfl, World.ownsRow_nil _ _ _ _, Below.refl _ _⟩
  case round =>
    obtain ⟨k, hk, rfl, hown, hbel⟩ := hrel
    by_cases hlt : k < l.length
    · obtain ⟨b, off, a, rfl, hc2, hb, hb2, hak, q0, q1, q2⟩ := HA.out.at_ hlt
      obtain ⟨act, key, val⟩ := a
      have r0 := (hbel.cell (p := ⟨b, off + k * 3, none⟩) hb).trans q0
      have r1 := (hbel.cell (p := ⟨b, off + k * 3 + 1, none⟩) hb).trans q1
      have r2 := (hbel.cell (p := ⟨b, off + k * 3 + 2, none⟩) hb).trans q2
      simp only at r0 r1 r2
      have HK := Lib.hid hak
      clear hak q0 q1 q2
      go_wp2_with (at_builtin; go_loud (refine wpList_append_own _ rfl _ _ 27 rfl w.heap.size 29 i0 _ 3 24 Try.underlying27 hi0 hz0 hz1 hz2 rfl (by omega) u5 (3 * k) _ rfl (hown.alloc _) ⟨wr.heap.size, 0, none⟩ 3 3 _ rfl rfl (news_blk (Blk.new wr _ _)) (by simp [Value.oneCell']) (by unfold maxLen; omega) (by omega) (by have := hbel.size; simp; omega) ?_; intro v' w3 hown' hgrow _))
      have hbel2 := (hbel.alloc hbel.size _).grown hgrow (by have := hbel.size; simp; omega) (fun g hg => (hown.lt g hg).1)
      refine ⟨⟨k + 1, by omega, by go_num, ?_, hbel2⟩, by simp [intOf]; omega⟩
      have hkl : k < l.length := hlt
      rw [show l.take (k + 1) = l.take k ++ [⟨act, key, val⟩] by rw [List.take_succ_eq_append_getElem hkl]; congr; exact (List.getElem?_eq_some_iff.1 HK.out).2, asksOf_snoc, actCells_append, show 3 * (k + 1) = 3 * k + 3 by omega]
      exact hown'
    · have e : k = l.length := by omega
      subst e
      rw [List.take_length] at hown
      have hsl : SlA wr wr.heap.size u5 (asksOf l) := own_SlA (by rw [asksOf_len]; exact hown)
      have hf := hsl.form
      rw [asksOf_len] at hf
      obtain ⟨A5, c5, rfl⟩ := hf
      have HS := Lib.hid hsl
      clear hsl hown
      go_wp2_with fail
      refine (avlRun_calls xs _ _ (asksOf l) wr ((HO.out.below hbel).mono hbel.size) HS.out (by rw [asksOf_len]; omega)).mono ?_
      rintro e w2 ⟨v', rfl, hT, hbel2⟩
      have hlen : (runN xs (asksOf l)).length = 3 * l.length := by unfold runN; rw [runA_len, asksOf_len]
      have hbel3 : Below w.heap.size w w2 := hbel.trans (hbel2.mono hbel.size)
      have hform : ∃ A7 c7, v' = .slice A7 (3 * l.length) c7 ∧ ∀ i d, (runN xs (asksOf l))[i]? = some d → ∃ g, A7 = some ⟨g, 0, none⟩ ∧ 3 * l.length ≤ c7 ∧ w2.cell? ⟨g, i * 4, none⟩ = some (.int .i64 d.val) := by
        by_cases hz : runN xs (asksOf l) = []
        · obtain ⟨cs, ho, _⟩ := hT
          rw [hz] at ho
          rcases ho.2 with ⟨e, _⟩ | ⟨g, cap, cur, e, _⟩
          · exact ⟨none, 0, by rw [e, ← hlen, hz]; rfl, fun i d hd => by rw [hz] at hd; simp at hd⟩
          · exact ⟨_, cap, by rw [e, ← hlen, hz], fun i d hd => by rw [hz] at hd; simp at hd⟩
        · obtain ⟨g, cap, e, hc, hcell⟩ := hT.is hz
          exact ⟨_, cap, by rw [e, hlen], fun i d hd => ⟨g, rfl, by rw [← hlen]; exact hc, (hcell i d hd).1⟩⟩
      obtain ⟨A7, c7, rfl, hcell⟩ := hform
      have HC := Lib.hid hcell
      clear hcell hT hlen
      have hne : (((3 * l.length : Nat) : Int) != ((3 * l.length : Nat) : Int)) = false := by simp
      go_wp2_with fail
      clear hne HS
      go_loopw [8] (fun i wq => ∃ j n : Nat, j ≤ l.length ∧ i = .int .i64 j ∧ wq = w2.drewN n) (fun i _ => l.length - (intOf i).toNat)
      case atStart => exact ⟨0, 0, Nat.zero_le _, rfl, rfl⟩
      case round =>
        obtain ⟨j, n, hj, rfl, rfl⟩ := hrel
        by_cases hlt : j < l.length
        · obtain ⟨t', ok, hsz, e1, e2⟩ := low_tells xs l .nil trivial j hlt
          obtain ⟨g, hg, hcap, c1⟩ := HC.out _ _ e1
          obtain ⟨g', hg', _, c2'⟩ := HC.out _ _ e2
          subst hg
          have hgg : g' = g := by simpa using hg'.symm
          subst hgg
          simp only [AT.ids, List.length_nil, Nat.zero_add] at hsz
          have p0 : (0 : Int) ≤ 3 * (j : Int) + 1 := by omega
          have p1 : 3 * (j : Int) + 1 < ((3 * l.length : Nat) : Int) := by omega
          have p2 : (0 : Int) ≤ 3 * (j : Int) + 2 := by omega
          have p3 : 3 * (j : Int) + 2 < ((3 * l.length : Nat) : Int) := by omega
          have p4 : (3 * (j : Int) + 1).toNat = 3 * j + 1 := by omega
          have p5 : (3 * (j : Int) + 2).toNat = 3 * j + 2 := by omega
          go_wp2_with fail
          go_quiet (fail)
          have h0 := ok.ht0
          have h50 := Ok.lt50 ok (by omega)
          have hlo := Ok.low ok
          have hto := Ok.top ok
          generalize t'.ids.length = sz at *
          generalize t'.ht = hh at *
          obtain ⟨hn, rfl⟩ := Int.eq_ofNat_of_zero_le h0
          rw [Int.toNat_natCast] at hlo hto
          have h60 : (hn : Int) < 62 := by omega
          clear e1 e2 c1 c2' ok hg' HC p0 p1 p2 p3 p4 p5
          have hlo' : (lean hn : Int) ≤ (sz : Int) := by omega
          go_wp2_with (go_at_call 12; refine (least_calls' _ _ h0 (by omega)).mono ?_; rintro e w4 ⟨rfl, rfl⟩; rw [Int.toNat_natCast])
          · exfalso
            have hcon : (((hn : Int) < 0) ∨ sz < lean hn) ∨ wrap64 (2 ^ hn) ≤ (sz : Int) := by assumption
            have hP : ((2 : Int) ^ hn) = ((2 ^ hn : Nat) : Int) := by rw [Int.natCast_pow]; rfl
            have hP2 : 2 ^ hn ≤ 2 ^ 50 := Nat.pow_le_pow_right (by decide) (by omega)
            rw [hP] at hcon
            generalize 2 ^ hn = P at *
            unfold wrap64 at hcon
            omega
          · exact ⟨⟨j + 1, _, by omega, by go_num, rfl⟩, by simp [intOf]; omega⟩
        · have e : j = l.length := by omega
          subst e
          go_wp2_with fail
          go_ret
          exact ⟨rfl, hbel3.trans (Below.drewN _ _)⟩
end Go.Proofs.Ytpnmgfiifaljjaa
