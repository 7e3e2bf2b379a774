/- tries in memory: a text is removed. -/
import Derived.Test.YtlpcddmcddenfaaTriE
namespace Go.Proofs.Ytlpcddmcddenfaa.Kp
open Go.RowKit Tri

/-- what remove makes of a part. -/
def RemOk (tb : Value) (K : Txt) (d : Nat) : Prop := ∀ (t : TN) (w : World), t.In w → t.ids.Nodup →
  Calls Try.prog 38 #[tb, .pointer t.ptr, str K, .int .i64 d] w fun e w' => ∃ t', e = .returned (.pointer t'.ptr) ∧ TStep w t (t.er.rem (K.drop d)) w' t'
theorem RemOk.at1 {tb : Value} {K : Txt} {d : Nat} (h : RemOk tb K (d + 1)) (t : TN) (w : World) (hi : t.In w) (hn : t.ids.Nodup) : Calls Try.prog 38 #[tb, .pointer t.ptr, str K, .int .i64 ((d : Int) + 1)] w fun e w' => ∃ t', e = .returned (.pointer t'.ptr) ∧ TStep w t (t.er.rem (K.drop (d + 1))) w' t' := h t w hi hn
theorem rem_node_eq (c : UInt8) (l m r : Tr) (v : Int) (b : Bool) (a : UInt8) (k : Txt) : Tr.rem (.node c l m r v b) (a :: k) = (if a.toNat < c.toNat then Tr.node c (l.rem (a :: k)) m r v b else if c.toNat < a.toNat then .node c l m (r.rem (a :: k)) v b else if k = [] then .node c l m r 0 false else .node c l (m.rem k) r v b).clean := by rw [Tr.rem]
theorem TStep.keep {w w1 : World} {t t1 : TN} {e : Tr} (h : TStep w t e w1 t1) (hu : false = t1.er.unused) : TStep w t e.clean w1 t1 := by
  have : e.clean = e := by unfold Tr.clean; rw [← h.er, ← hu]; rfl
  rw [this]; exact h
theorem TStep.drop {w w1 w2 : World} {t t1 : TN} {e : Tr} (h : TStep w t e w1 t1) (hu : true = t1.er.unused) (k : TStep w1 t1 t1.del.er w2 t1.del) : TStep w t e.clean w2 t1.del := by
  have : e.clean = t1.del.er := by unfold Tr.clean; rw [← h.er, ← hu, TN.del_er]; rfl
  rw [this]; exact h.trans k
set_option maxHeartbeats 4000000 in
theorem rem_step (tb : Value) (K : Txt) (hK : K.length ≤ 2147483647) (d : Nat) (hd : d < K.length) (IH : d + 1 < K.length → RemOk tb K (d + 1)) : RemOk tb K d := by
  intro t
  have hk := drop_at hd
  have hsz := str_len K
  have hat := str_at K d hd
  have w1 : IntKind.i64.wrap ((K.length : Int) - 1) = (K.length : Int) - 1 := IntWalk.i64_in _ (by omega)
  have w2 : IntKind.i64.wrap ((d : Int) + 1) = (d : Int) + 1 := IntWalk.i64_in _ (by omega)
  have hd' := hd
  have hkn : d + 1 < K.length → ¬ K.drop (d + 1) = [] := fun _ e => by
    have := congrArg List.length e
    rw [List.length_drop, List.length_nil] at this; omega
  have hkz : ¬ d + 1 < K.length → K.drop (d + 1) = [] := fun _ => List.drop_eq_nil_of_le (by omega)
  induction t with
  | nil =>
    intro w hi _
    show Calls _ _ #[_, .pointer none, _, _] _ _
    have e : TN.nil.er.rem (K.drop d) = .nil := by show Tr.rem .nil _ = _; rw [Tr.rem]
    rw [e]
    clear e hk hkn hkz IH
    go_enter Try.func38, Try.ntmps38
    go_wp2
    go_ret
    exact ⟨.nil, rfl, TStep.sub (w := w) (t := .nil) (t' := .nil) trivial (by simp [TN.ids]) (fun _ h => h)⟩
  | node p c l m r v b ihl _ ihr =>
    intro w hi hnd
    obtain ⟨⟨p0, p1, p2, p3, _, _⟩, pf⟩ := cells_in hi.1
    obtain ⟨⟨d1, d2, d3⟩, nl, nm, nr, lm, lr, mr⟩ := nd3.1 hnd
    have HI := Lib.hid hi
    have HN := Lib.hid hnd
    clear hi hnd
    show Calls _ _ #[_, .pointer (some ⟨p, 0, none⟩), _, _] _ _
    rcases Nat.lt_trichotomy K[d].toNat c.toNat with h1 | h1 | h1
    · have e : (TN.node p c l m r v b).er.rem (K.drop d) = (Tr.node c (l.er.rem (K.drop d)) m.er r.er v b).clean := by rw [hk]; exact (rem_node_eq ..).trans (by rw [if_pos h1])
      have h1' : ((K[d].toNat : Int) < (c.toNat : Int)) := by omega
      rw [e]
      clear e hk hkn hkz
      have HH := Lib.hid (ihl w HI.out.2.1 nl)
      clear ihl ihr IH
      go_enter Try.func38, Try.ntmps38
      go_wp2_with fail
      refine HH.out.mono ?_
      rintro e w1 ⟨t', rfl, HT⟩
      have HT2 := Lib.hid (TStep.left HI.out HN.out HT _ rfl)
      have HB1 := Lib.hid (HI.out.1.fr HT.fr d1)
      clear HT
      have pf := HB1.out.frozen
      have q1 := HB1.out.cell 1
      obtain ⟨u, hu⟩ : ∃ u, u = (TN.node p c t' m r v b).er.unused := ⟨_, rfl⟩
      have HC := Lib.hid (unused_calls _ _ _ _ _ _ _ _ HT2.out.inn)
      have HDL := Lib.hid (delete_calls _ _ _ _ _ _ _ _ HT2.out.inn HT2.out.nd)
      rw [← hu] at HC
      have HU := Lib.hid hu
      clear hu
      go_wp2_with fail
      refine HC.out.mono ?_
      rintro e w3 ⟨rfl, rfl⟩
      cases u with
      | false =>
        go_wp2
        go_ret
        exact ⟨_, rfl, TStep.keep HT2.out HU.out⟩
      | true =>
        go_wp2_with fail
        refine HDL.out.mono ?_
        rintro e w4 ⟨rfl, HT4⟩
        have HT5 := Lib.hid (TStep.drop HT2.out HU.out HT4)
        clear HT4
        go_wp2
        go_ret
        exact ⟨_, rfl, HT5.out⟩
    · have h1' : ¬ ((K[d].toNat : Int) < (c.toNat : Int)) := by omega
      have h1'' : ¬ ((c.toNat : Int) < (K[d].toNat : Int)) := by omega
      by_cases hn : d + 1 < K.length
      · have e : (TN.node p c l m r v b).er.rem (K.drop d) = (Tr.node c l.er (m.er.rem (K.drop (d + 1))) r.er v b).clean := by
          rw [hk]; exact (rem_node_eq ..).trans (by rw [if_neg (by omega), if_neg (by omega), if_neg (hkn hn)])
        have h2 : (d : Int) < (K.length : Int) - 1 := by omega
        rw [e]
        clear e hk hkn hkz
        have HH := Lib.hid ((IH hn).at1 m w HI.out.2.2.1 nm)
        clear ihl ihr IH
        go_enter Try.func38, Try.ntmps38
        go_wp2_with fail
        refine HH.out.mono ?_
        rintro e w1 ⟨t', rfl, HT⟩
        have HT2 := Lib.hid (TStep.midd HI.out HN.out HT _ rfl)
        have HB1 := Lib.hid (HI.out.1.fr HT.fr d2)
        clear HT
        have pf := HB1.out.frozen
        have q1 := HB1.out.cell 2
        obtain ⟨u, hu⟩ : ∃ u, u = (TN.node p c l t' r v b).er.unused := ⟨_, rfl⟩
        have HC := Lib.hid (unused_calls _ _ _ _ _ _ _ _ HT2.out.inn)
        have HDL := Lib.hid (delete_calls _ _ _ _ _ _ _ _ HT2.out.inn HT2.out.nd)
        rw [← hu] at HC
        have HU := Lib.hid hu
        clear hu
        go_wp2_with fail
        refine HC.out.mono ?_
        rintro e w3 ⟨rfl, rfl⟩
        cases u with
        | false =>
          go_wp2
          go_ret
          exact ⟨_, rfl, TStep.keep HT2.out HU.out⟩
        | true =>
          go_wp2_with fail
          refine HDL.out.mono ?_
          rintro e w4 ⟨rfl, HT4⟩
          have HT5 := Lib.hid (TStep.drop HT2.out HU.out HT4)
          clear HT4
          go_wp2
          go_ret
          exact ⟨_, rfl, HT5.out⟩
      · have e : (TN.node p c l m r v b).er.rem (K.drop d) = (Tr.node c l.er m.er r.er 0 false).clean := by
          rw [hk]; exact (rem_node_eq ..).trans (by rw [if_neg (by omega), if_neg (by omega), if_pos (hkz hn)])
        have h2 : ¬ (d : Int) < (K.length : Int) - 1 := by omega
        rw [e]
        clear e hk hkn hkz
        have HT2 := Lib.hid (TStep.setv HI.out HN.out 0 false)
        clear ihl ihr IH
        obtain ⟨u, hu⟩ : ∃ u, u = (TN.node p c l m r 0 false).er.unused := ⟨_, rfl⟩
        have HC := Lib.hid (unused_calls _ _ _ _ _ _ _ _ HT2.out.inn)
        have HDL := Lib.hid (delete_calls _ _ _ _ _ _ _ _ HT2.out.inn HT2.out.nd)
        rw [← hu] at HC
        have HU := Lib.hid hu
        clear hu
        go_enter Try.func38, Try.ntmps38
        go_wp2_with fail
        refine HC.out.mono ?_
        rintro e w3 ⟨rfl, rfl⟩
        cases u with
        | false =>
          go_wp2
          go_ret
          exact ⟨_, rfl, TStep.keep HT2.out HU.out⟩
        | true =>
          go_wp2_with fail
          refine HDL.out.mono ?_
          rintro e w4 ⟨rfl, HT4⟩
          have HT5 := Lib.hid (TStep.drop HT2.out HU.out HT4)
          clear HT4
          go_wp2
          go_ret
          exact ⟨_, rfl, HT5.out⟩
    · have e : (TN.node p c l m r v b).er.rem (K.drop d) = (Tr.node c l.er m.er (r.er.rem (K.drop d)) v b).clean := by rw [hk]; exact (rem_node_eq ..).trans (by rw [if_neg (by omega), if_pos h1])
      have h1' : ¬ ((K[d].toNat : Int) < (c.toNat : Int)) := by omega
      have h1'' : ((c.toNat : Int) < (K[d].toNat : Int)) := by omega
      rw [e]
      clear e hk hkn hkz
      have HH := Lib.hid (ihr w HI.out.2.2.2 nr)
      clear ihl ihr IH
      go_enter Try.func38, Try.ntmps38
      go_wp2_with fail
      refine HH.out.mono ?_
      rintro e w1 ⟨t', rfl, HT⟩
      have HT2 := Lib.hid (TStep.right HI.out HN.out HT _ rfl)
      have HB1 := Lib.hid (HI.out.1.fr HT.fr d3)
      clear HT
      have pf := HB1.out.frozen
      have q1 := HB1.out.cell 3
      obtain ⟨u, hu⟩ : ∃ u, u = (TN.node p c l m t' v b).er.unused := ⟨_, rfl⟩
      have HC := Lib.hid (unused_calls _ _ _ _ _ _ _ _ HT2.out.inn)
      have HDL := Lib.hid (delete_calls _ _ _ _ _ _ _ _ HT2.out.inn HT2.out.nd)
      rw [← hu] at HC
      have HU := Lib.hid hu
      clear hu
      go_wp2_with fail
      refine HC.out.mono ?_
      rintro e w3 ⟨rfl, rfl⟩
      cases u with
      | false =>
        go_wp2
        go_ret
        exact ⟨_, rfl, TStep.keep HT2.out HU.out⟩
      | true =>
        go_wp2_with fail
        refine HDL.out.mono ?_
        rintro e w4 ⟨rfl, HT4⟩
        have HT5 := Lib.hid (TStep.drop HT2.out HU.out HT4)
        clear HT4
        go_wp2
        go_ret
        exact ⟨_, rfl, HT5.out⟩
theorem rem_all (tb : Value) (K : Txt) (hK : K.length ≤ 2147483647) : ∀ (n d : Nat), K.length = d + n + 1 → RemOk tb K d
  | 0, d, h => rem_step tb K hK d (by omega) (fun h' => by omega)
  | n + 1, d, h => rem_step tb K hK d (by omega) (fun _ => rem_all tb K hK n (d + 1) (by omega))
theorem rem_calls (tb : Value) (K : Txt) (hK : K.length ≤ 2147483647) (h0 : K ≠ []) (t : TN) (w : World) (hi : t.In w) (hn : t.ids.Nodup) :
    Calls Try.prog 38 #[tb, .pointer t.ptr, str K, .int .i64 0] w fun e w' => ∃ t', e = .returned (.pointer t'.ptr) ∧ TStep w t (t.er.rem K) w' t' := by
  have hl : 0 < K.length := List.length_pos_iff.2 h0
  exact rem_all tb K hK (K.length - 1) 0 (by omega) t w hi hn
end Go.Proofs.Ytlpcddmcddenfaa.Kp
