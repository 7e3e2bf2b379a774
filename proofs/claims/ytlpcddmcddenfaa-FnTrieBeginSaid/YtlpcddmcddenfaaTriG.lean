/- tries in memory: a text is looked for. -/
import Derived.Test.YtlpcddmcddenfaaTriM
namespace Go.Proofs.Ytlpcddmcddenfaa.Kp
open Go.RowKit Tri

/-- what get tells of a part. -/
def GetOk (tb : Value) (K : Txt) (d : Nat) : Prop := ∀ (t : TN) (w : World), t.In w →
  Calls Try.prog 39 #[tb, .pointer t.ptr, str K, .int .i64 d] w fun e w' => e = .returned (.pointer (t.get (K.drop d)).ptr) ∧ w = w'
theorem GetOk.at_ {tb : Value} {K : Txt} {d : Nat} (h : GetOk tb K d) (t : TN) (w : World) (hi : t.In w) : Calls Try.prog 39 #[tb, .pointer t.ptr, str K, .int .i64 d] w fun e w' => e = .returned (.pointer (t.get (K.drop d)).ptr) ∧ w = w' := h t w hi
theorem GetOk.at1 {tb : Value} {K : Txt} {d : Nat} (h : GetOk tb K (d + 1)) (t : TN) (w : World) (hi : t.In w) : Calls Try.prog 39 #[tb, .pointer t.ptr, str K, .int .i64 ((d : Int) + 1)] w fun e w' => e = .returned (.pointer (t.get (K.drop (d + 1))).ptr) ∧ w = w' := h t w hi
theorem cells_in {p : Nat} {c : UInt8} {l m r : TN} {v : Int} {b : Bool} {T : TypeId} {w : World} (h : Blk w p (cellsT c l m r v b) T) :
    (w.cell? ⟨p, 0, none⟩ = some (.int .u8 c.toNat) ∧ w.cell? ⟨p, 1, none⟩ = some (.pointer l.ptr) ∧ w.cell? ⟨p, 2, none⟩ = some (.pointer m.ptr) ∧ w.cell? ⟨p, 3, none⟩ = some (.pointer r.ptr) ∧ w.cell? ⟨p, 4, none⟩ = some (.int .i64 v) ∧ w.cell? ⟨p, 5, none⟩ = some (.bool b)) ∧ ∀ i, w.frozen? ⟨p, i, none⟩ = false :=
  ⟨⟨h.cell 0, h.cell 1, h.cell 2, h.cell 3, h.cell 4, h.cell 5⟩, h.frozen⟩
set_option maxHeartbeats 2000000 in
theorem get_step (tb : Value) (K : Txt) (hK : K.length ≤ 2147483647) (d : Nat) (hd : d < K.length) (IH : d + 1 < K.length → GetOk tb K (d + 1)) : GetOk tb K d := by
  intro t
  induction t with
  | nil =>
    intro w hi
    show Calls _ _ #[_, .pointer none, _, _] _ _
    go_enter Try.func39, Try.ntmps39
    go_wp2
    go_ret
    exact ⟨rfl, rfl⟩
  | node p c l m r v b ihl _ ihr =>
    intro w hi
    have hk := drop_at hd
    obtain ⟨⟨p0, p1, p2, p3, _, _⟩, _⟩ := cells_in hi.1
    have hsz := str_len K
    have hat := str_at K d hd
    have HI := Lib.hid hi
    have w1 : IntKind.i64.wrap ((K.length : Int) - 1) = (K.length : Int) - 1 := IntWalk.i64_in _ (by omega)
    have w2 : IntKind.i64.wrap ((d : Int) + 1) = (d : Int) + 1 := IntWalk.i64_in _ (by omega)
    have hd' := hd
    clear hi
    show Calls _ _ #[_, .pointer (some ⟨p, 0, none⟩), _, _] _ _
    rcases Nat.lt_trichotomy K[d].toNat c.toNat with h1 | h1 | h1
    · have e : (TN.node p c l m r v b).get (K.drop d) = l.get (K.drop d) := by rw [hk]; exact if_pos h1
      rw [e]
      clear e hk
      have h1' : ((K[d].toNat : Int) < (c.toNat : Int)) := by omega
      have HH := Lib.hid (ihl w HI.out.2.1)
      clear ihl ihr IH
      go_enter Try.func39, Try.ntmps39
      go_wp2_with fail
      refine HH.out.mono ?_
      rintro e w1 ⟨rfl, rfl⟩
      go_wp2
      go_ret
      exact ⟨rfl, rfl⟩
    · have h1' : ¬ ((K[d].toNat : Int) < (c.toNat : Int)) := by omega
      have h1'' : ¬ ((c.toNat : Int) < (K[d].toNat : Int)) := by omega
      by_cases hn : d + 1 < K.length
      · have e : (TN.node p c l m r v b).get (K.drop d) = m.get (K.drop (d + 1)) := by
          rw [hk]
          refine (if_neg (by omega)).trans ((if_neg (by omega)).trans (if_neg ?_))
          intro e
          have := congrArg List.length e
          rw [List.length_drop, List.length_nil] at this; omega
        rw [e]
        clear e hk
        have h2 : (d : Int) < (K.length : Int) - 1 := by omega
        have HH := Lib.hid ((IH hn).at1 m w HI.out.2.2.1)
        clear ihl ihr IH
        go_enter Try.func39, Try.ntmps39
        go_wp2_with fail
        refine HH.out.mono ?_
        rintro e w1 ⟨rfl, rfl⟩
        go_wp2
        go_ret
        exact ⟨rfl, rfl⟩
      · have e : (TN.node p c l m r v b).get (K.drop d) = .node p c l m r v b := by
          rw [hk]
          refine (if_neg (by omega)).trans ((if_neg (by omega)).trans (if_pos ?_))
          exact List.drop_eq_nil_of_le (by omega)
        rw [e]
        clear e hk
        have h2 : ¬ (d : Int) < (K.length : Int) - 1 := by omega
        clear ihl ihr IH
        go_enter Try.func39, Try.ntmps39
        go_wp2
        go_ret
        exact ⟨rfl, rfl⟩
    · have e : (TN.node p c l m r v b).get (K.drop d) = r.get (K.drop d) := by rw [hk]; exact (if_neg (by omega)).trans (if_pos h1)
      rw [e]
      clear e hk
      have h1' : ¬ ((K[d].toNat : Int) < (c.toNat : Int)) := by omega
      have h1'' : ((c.toNat : Int) < (K[d].toNat : Int)) := by omega
      have HH := Lib.hid (ihr w HI.out.2.2.2)
      clear ihl ihr IH
      go_enter Try.func39, Try.ntmps39
      go_wp2_with fail
      refine HH.out.mono ?_
      rintro e w1 ⟨rfl, rfl⟩
      go_wp2
      go_ret
      exact ⟨rfl, rfl⟩
theorem get_all (tb : Value) (K : Txt) (hK : K.length ≤ 2147483647) : ∀ (n d : Nat), K.length = d + n + 1 → GetOk tb K d
  | 0, d, h => get_step tb K hK d (by omega) (fun h' => by omega)
  | n + 1, d, h => get_step tb K hK d (by omega) (fun _ => get_all tb K hK n (d + 1) (by omega))
theorem get_calls (tb : Value) (K : Txt) (hK : K.length ≤ 2147483647) (h0 : K ≠ []) (t : TN) (w : World) (hi : t.In w) :
    Calls Try.prog 39 #[tb, .pointer t.ptr, str K, .int .i64 0] w fun e w' => e = .returned (.pointer (t.get K).ptr) ∧ w = w' := by
  have hl : 0 < K.length := List.length_pos_iff.2 h0
  exact get_all tb K hK (K.length - 1) 0 (by omega) t w hi
end Go.Proofs.Ytlpcddmcddenfaa.Kp
