/- tries in memory: a text is put. -/
import Derived.Test.YtlpcddmcddenfaaTriG
namespace Go.Proofs.Ytlpcddmcddenfaa.Kp
open Go.RowKit Tri

/-- what put makes of a part. -/
def PutOk (tb : Value) (K : Txt) (x : Int) (d : Nat) : Prop := ∀ (t : TN) (w : World), t.In w → t.ids.Nodup →
  Calls Try.prog 37 #[tb, .pointer t.ptr, str K, .int .i64 x, .int .i64 d] w fun e w' => ∃ t', e = .returned (.pointer t'.ptr) ∧ TStep w t (t.er.put (K.drop d) x) w' t'
theorem PutOk.at_ {tb : Value} {K : Txt} {x : Int} {d : Nat} (h : PutOk tb K x d) (t : TN) (w : World) (hi : t.In w) (hn : t.ids.Nodup) : Calls Try.prog 37 #[tb, .pointer t.ptr, str K, .int .i64 x, .int .i64 d] w fun e w' => ∃ t', e = .returned (.pointer t'.ptr) ∧ TStep w t (t.er.put (K.drop d) x) w' t' := h t w hi hn
theorem PutOk.at1 {tb : Value} {K : Txt} {x : Int} {d : Nat} (h : PutOk tb K x (d + 1)) (t : TN) (w : World) (hi : t.In w) (hn : t.ids.Nodup) : Calls Try.prog 37 #[tb, .pointer t.ptr, str K, .int .i64 x, .int .i64 ((d : Int) + 1)] w fun e w' => ∃ t', e = .returned (.pointer t'.ptr) ∧ TStep w t (t.er.put (K.drop (d + 1)) x) w' t' := h t w hi hn
/-- a node that is new. -/
theorem TStep.fresh {w w1 : World} {p : Nat} {c : UInt8} {v : Int} {b : Bool} {o : Obj} {e : Tr} {t' : TN} (hp : p = w.heap.size) (h : TStep (w.alloc o) (.node p c .nil .nil .nil v b) e w1 t') : TStep w .nil e w1 t' := by
  subst hp
  refine ⟨h.inn, h.er, fun i hi => .inr ?_, h.nd, ?_⟩
  · rcases h.ids i hi with hx | hx
    · simp [TN.ids] at hx; omega
    · simp at hx; omega
  · refine ((Fr.alloc [w.heap.size] w o).comp ?_).mono (fun x hx => .inr (by simp at hx; omega))
    exact h.fr.mono (fun x hx => .inl (by simpa [TN.ids] using hx))
/-- a new node of one letter. -/
theorem new_node (w : World) (c : UInt8) (v : Int) (b : Bool) : (TN.node w.heap.size c .nil .nil .nil v b).In (w.alloc (.cells (cellsT c .nil .nil .nil v b) 72)) := ⟨Blk.new _ _ _, trivial, trivial, trivial⟩
theorem nd1 (p : Nat) (c : UInt8) (v : Int) (b : Bool) : (TN.node p c .nil .nil .nil v b).ids.Nodup := by simp [TN.ids]
set_option maxHeartbeats 2000000 in
theorem put_step (tb : Value) (K : Txt) (x : Int) (hK : K.length ≤ 2147483647) (d : Nat) (hd : d < K.length) (IH : d + 1 < K.length → PutOk tb K x (d + 1)) : PutOk tb K x d := by
  intro t
  have hk := drop_at hd
  have hsz := str_len K
  have hat := str_at K d hd
  have w1 : IntKind.i64.wrap ((K.length : Int) - 1) = (K.length : Int) - 1 := IntWalk.i64_in _ (by omega)
  have w2 : IntKind.i64.wrap ((d : Int) + 1) = (d : Int) + 1 := IntWalk.i64_in _ (by omega)
  have hd' := hd
  have hkn : d + 1 < K.length → ¬ K.drop (d + 1) = [] := fun _ e => by
    have := congrArg List.length e
    rw [List.length_drop, List.length_nil] at this; omega
  have hkz : ¬ d + 1 < K.length → K.drop (d + 1) = [] := fun _ => List.drop_eq_nil_of_le (by omega)
  induction t with
  | nil =>
    intro w hi _
    show Calls _ _ #[_, .pointer none, _, _, _] _ _
    have hirr : ¬ ((K[d].toNat : Int) < (K[d].toNat : Int)) := by omega
    by_cases hn : d + 1 < K.length
    · have e : TN.nil.er.put (K.drop d) x = .node K[d] .nil (Tr.put .nil (K.drop (d + 1)) x) .nil 0 false := by
        rw [hk]; exact (put_nil_eq _ _ _).trans (if_neg (hkn hn))
      rw [e]
      clear e hk hkn hkz
      have h2 : (d : Int) < (K.length : Int) - 1 := by omega
      have HW := Lib.hid (new_node w K[d] 0 false)
      have HH := Lib.hid ((IH hn).at1 .nil (w.alloc (.cells (cellsT K[d] .nil .nil .nil 0 false) 72)) trivial (by simp [TN.ids]))
      clear IH
      go_enter Try.func37, Try.ntmps37
      go_wp2_with fail
      refine HH.out.mono ?_
      rintro e w1 ⟨t', rfl, HT⟩
      have HT1 := Lib.hid HT
      have hb1 := HW.out.1.fr HT.fr (by simp [TN.ids])
      have HB1 := Lib.hid hb1
      clear HT
      have pf := HB1.out.frozen
      have p2 := HB1.out.cell 2
      clear hb1
      go_wp2
      go_ret
      exact ⟨.node w.heap.size K[d] .nil t' .nil 0 false, rfl, TStep.fresh rfl (TStep.midd HW.out (nd1 _ _ _ _) HT1.out _ rfl)⟩
    · have e : TN.nil.er.put (K.drop d) x = .node K[d] .nil .nil .nil x true := by
        rw [hk]; exact (put_nil_eq _ _ _).trans (if_pos (hkz hn))
      rw [e]
      clear e hk hkn hkz
      have h2 : ¬ (d : Int) < (K.length : Int) - 1 := by omega
      clear IH
      go_enter Try.func37, Try.ntmps37
      go_wp2
      go_ret
      exact ⟨.node w.heap.size K[d] .nil .nil .nil x true, rfl, TStep.fresh rfl (TStep.same (new_node w K[d] x true) (nd1 _ _ _ _))⟩
  | node p c l m r v b ihl _ ihr =>
    intro w hi hnd
    obtain ⟨⟨p0, p1, p2, p3, _, _⟩, pf⟩ := cells_in hi.1
    obtain ⟨⟨d1, d2, d3⟩, nl, nm, nr, lm, lr, mr⟩ := nd3.1 hnd
    have HI := Lib.hid hi
    have HN := Lib.hid hnd
    clear hi hnd
    show Calls _ _ #[_, .pointer (some ⟨p, 0, none⟩), _, _, _] _ _
    rcases Nat.lt_trichotomy K[d].toNat c.toNat with h1 | h1 | h1
    · have e : (TN.node p c l m r v b).er.put (K.drop d) x = .node c (l.er.put (K.drop d) x) m.er r.er v b := by rw [hk]; exact (put_node_eq ..).trans (if_pos h1)
      rw [e]
      clear e hk hkn hkz
      have h1' : ((K[d].toNat : Int) < (c.toNat : Int)) := by omega
      have HH := Lib.hid (ihl w HI.out.2.1 nl)
      clear ihl ihr IH
      go_enter Try.func37, Try.ntmps37
      go_wp2_with fail
      refine HH.out.mono ?_
      rintro e w1 ⟨t', rfl, HT⟩
      have HT1 := Lib.hid HT
      have HB1 := Lib.hid (HI.out.1.fr HT.fr d1)
      clear HT
      have pf := HB1.out.frozen
      have p2 := HB1.out.cell 1
      go_wp2
      go_ret
      exact ⟨.node p c t' m r v b, rfl, TStep.left HI.out HN.out HT1.out _ rfl⟩
    · have h1' : ¬ ((K[d].toNat : Int) < (c.toNat : Int)) := by omega
      have h1'' : ¬ ((c.toNat : Int) < (K[d].toNat : Int)) := by omega
      by_cases hn : d + 1 < K.length
      · have e : (TN.node p c l m r v b).er.put (K.drop d) x = .node c l.er (m.er.put (K.drop (d + 1)) x) r.er v b := by
          rw [hk]; exact (put_node_eq ..).trans ((if_neg (by omega)).trans ((if_neg (by omega)).trans (if_neg (hkn hn))))
        rw [e]
        clear e hk hkn hkz
        have h2 : (d : Int) < (K.length : Int) - 1 := by omega
        have HH := Lib.hid ((IH hn).at1 m w HI.out.2.2.1 nm)
        clear ihl ihr IH
        go_enter Try.func37, Try.ntmps37
        go_wp2_with fail
        refine HH.out.mono ?_
        rintro e w1 ⟨t', rfl, HT⟩
        have HT1 := Lib.hid HT
        have HB1 := Lib.hid (HI.out.1.fr HT.fr d2)
        clear HT
        have pf := HB1.out.frozen
        have p2 := HB1.out.cell 2
        go_wp2
        go_ret
        exact ⟨.node p c l t' r v b, rfl, TStep.midd HI.out HN.out HT1.out _ rfl⟩
      · have e : (TN.node p c l m r v b).er.put (K.drop d) x = .node c l.er m.er r.er x true := by
          rw [hk]; exact (put_node_eq ..).trans ((if_neg (by omega)).trans ((if_neg (by omega)).trans (if_pos (hkz hn))))
        rw [e]
        clear e hk hkn hkz
        have h2 : ¬ (d : Int) < (K.length : Int) - 1 := by omega
        clear ihl ihr IH
        go_enter Try.func37, Try.ntmps37
        go_wp2
        go_ret
        exact ⟨.node p c l m r x true, rfl, TStep.setv HI.out HN.out _ _⟩
    · have e : (TN.node p c l m r v b).er.put (K.drop d) x = .node c l.er m.er (r.er.put (K.drop d) x) v b := by
        rw [hk]; exact (put_node_eq ..).trans ((if_neg (by omega)).trans (if_pos h1))
      rw [e]
      clear e hk hkn hkz
      have h1' : ¬ ((K[d].toNat : Int) < (c.toNat : Int)) := by omega
      have h1'' : ((c.toNat : Int) < (K[d].toNat : Int)) := by omega
      have HH := Lib.hid (ihr w HI.out.2.2.2 nr)
      clear ihl ihr IH
      go_enter Try.func37, Try.ntmps37
      go_wp2_with fail
      refine HH.out.mono ?_
      rintro e w1 ⟨t', rfl, HT⟩
      have HT1 := Lib.hid HT
      have HB1 := Lib.hid (HI.out.1.fr HT.fr d3)
      clear HT
      have pf := HB1.out.frozen
      have p2 := HB1.out.cell 3
      go_wp2
      go_ret
      exact ⟨.node p c l m t' v b, rfl, TStep.right HI.out HN.out HT1.out _ rfl⟩
theorem put_all (tb : Value) (K : Txt) (x : Int) (hK : K.length ≤ 2147483647) : ∀ (n d : Nat), K.length = d + n + 1 → PutOk tb K x d
  | 0, d, h => put_step tb K x hK d (by omega) (fun h' => by omega)
  | n + 1, d, h => put_step tb K x hK d (by omega) (fun _ => put_all tb K x hK n (d + 1) (by omega))
theorem put_calls (tb : Value) (K : Txt) (x : Int) (hK : K.length ≤ 2147483647) (h0 : K ≠ []) (t : TN) (w : World) (hi : t.In w) (hn : t.ids.Nodup) :
    Calls Try.prog 37 #[tb, .pointer t.ptr, str K, .int .i64 x, .int .i64 0] w fun e w' => ∃ t', e = .returned (.pointer t'.ptr) ∧ TStep w t (t.er.put K x) w' t' := by
  have hl : 0 < K.length := List.length_pos_iff.2 h0
  exact put_all tb K x hK (K.length - 1) 0 (by omega) t w hi hn
end Go.Proofs.Ytlpcddmcddenfaa.Kp
