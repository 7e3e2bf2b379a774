/- spec.SameTold: of two steps that tell the same. -/
import Derived.Test.YtjbelfbfhcmgeaaTrS
import Derived.Test.YtjbelfbfhcmgeaaSame
namespace Go.Proofs.Ytjbelfbfhcmgeaa.Kp
open Go.RowKit Om Bt

theorem alike_quiet (xs : List Int) (tv : Value) (B : Nat) (a b : Int) (w : World) (ht : SlR w B tv (xs.map i64v)) (hab : rankOf xs a = rankOf xs b) :
    Calls Try.prog 18 #[tv, .int .i64 a, .int .i64 b] w fun e w' => e = .returned (.bool true) ∧ ∃ n, w' = w.drewN n := by
  refine (alike_calls xs tv B a b w ht).mono ?_
  rintro e w1 ⟨rfl, rfl⟩
  exact ⟨by rw [hab]; simp, 0, rfl⟩
theorem NS.slI {w : World} {v : Value} {xs : List Int} (h : NS w v xs) : SlI w w.heap.size v xs := h.sl
theorem map_at {r : Int → Int} {a b : List Int} (h : a.map r = b.map r) {k : Nat} (ha : k < a.length) (hb : k < b.length) : r a[k] = r b[k] := by
  have h1 : (a.map r)[k]? = some (r a[k]) := by rw [List.getElem?_map, List.getElem?_eq_getElem ha]; rfl
  rw [h, List.getElem?_map, List.getElem?_eq_getElem hb] at h1
  simpa using h1.symm
set_option maxRecDepth 100000 in
set_option maxHeartbeats 1600000 in
theorem sameTold_calls (xs : List Int) (tv : Value) (act : Int) (d e : ToldD) (ka va kb vb : Value) (w : World) (ht : SlR w w.heap.size tv (xs.map i64v)) (h1 : SlI w w.heap.size ka d.keys) (h2 : SlI w w.heap.size va d.vals) (h3 : SlI w w.heap.size kb e.keys) (h4 : SlI w w.heap.size vb e.vals) (hk : d.keys.length ≤ 9223372036854775807) (hv : d.vals.length ≤ 9223372036854775807)
    (hs : d.ok = e.ok ∧ d.vals = e.vals ∧ d.keys.map (rankOf xs) = e.keys.map (rankOf xs) ∧ ((act = 2 ∧ d.ok = false) ∨ d.val = e.val)) :
    Calls Try.prog 26 #[tv, .int .i64 act, .agg #[.int .i64 d.val, .bool d.ok, ka, va], .agg #[.int .i64 e.val, .bool e.ok, kb, vb]] w fun e' w' => e' = .returned (.bool true) ∧ Below w.heap.size w w' := by
  obtain ⟨dv, dk, dks, dvs⟩ := d
  obtain ⟨ev, ek, eks, evs⟩ := e
  simp only at *
  obtain ⟨rfl, rfl, hks, hva⟩ := hs
  obtain ⟨A, c, rfl⟩ := ht.form
  rw [List.length_map] at *
  obtain ⟨A1, c1, rfl⟩ := h1.form
  obtain ⟨A2, c2, rfl⟩ := h2.form
  obtain ⟨A3, c3, rfl⟩ := h3.form
  obtain ⟨A4, c4, rfl⟩ := h4.form
  have hlen : eks.length = dks.length := by have := congrArg List.length hks; simpa using this.symm
  have hW : Below w.heap.size w ((w.alloc (.cells #[.int .i64 dv, .bool dk, .slice A1 dks.length c1, .slice A2 dvs.length c2] 50)).alloc (.cells #[.int .i64 ev, .bool dk, .slice A3 eks.length c3, .slice A4 dvs.length c4] 50)) := ((Below.refl _ w).alloc (Nat.le_refl _) _).alloc (by simp) _
  have z1 := (Blk.new w #[.int .i64 dv, .bool dk, .slice A1 dks.length c1, .slice A2 dvs.length c2] 50).alloc (.cells #[.int .i64 ev, .bool dk, .slice A3 eks.length c3, .slice A4 dvs.length c4] 50)
  have z2 := blk_new1' w (.cells #[.int .i64 dv, .bool dk, .slice A1 dks.length c1, .slice A2 dvs.length c2] 50) #[.int .i64 ev, .bool dk, .slice A3 eks.length c3, .slice A4 dvs.length c4] 50
  rw [hlen] at hW z1 z2 h3 ⊢
  have HKS := Lib.hid (And.intro hks hlen)
  have HVA := Lib.hid hva
  have HZ := Lib.hid (And.intro z1 (And.intro z2 hW))
  have HS := Lib.hid (And.intro (ht.below hW) (And.intro (h1.below hW) (And.intro (h2.below hW) (And.intro (h3.below hW) (h4.below hW)))))
  have e1 : (dk != dk) = false := by simp
  have e2 : ((dks.length : Int) != (dks.length : Int)) = false := by simp
  have HSM := Lib.hid (fun (W : World) (g2 : SlI W w.heap.size (.slice A2 dvs.length c2) dvs) (g4 : SlI W w.heap.size (.slice A4 dvs.length c4) dvs) => (same_calls dvs dvs _ _ w.heap.size w.heap.size W g2 g4 hv))
  clear hks hlen hva z1 z2 hW h1 h2 h3 h4 ht
  go_enter Try.func26, Try.ntmps26
  go_upto_region 1 with (fail)
  generalize (w.alloc (.cells #[.int .i64 dv, .bool dk, .slice A1 dks.length c1, .slice A2 dvs.length c2] 50)).alloc (.cells #[.int .i64 ev, .bool dk, .slice A3 dks.length c3, .slice A4 dvs.length c4] 50) = W at *
  have a0 : W.cell? ⟨w.heap.size, 0, none⟩ = some (.int .i64 dv) := HZ.out.1.cell 0
  have a1 : W.cell? ⟨w.heap.size, 1, none⟩ = some (.bool dk) := HZ.out.1.cell 1
  have a2 : W.cell? ⟨w.heap.size, 2, none⟩ = some (.slice A1 dks.length c1) := HZ.out.1.cell 2
  have a3 : W.cell? ⟨w.heap.size, 3, none⟩ = some (.slice A2 dvs.length c2) := HZ.out.1.cell 3
  have b0 : W.cell? ⟨w.heap.size + 1, 0, none⟩ = some (.int .i64 ev) := HZ.out.2.1.cell 0
  have b1 : W.cell? ⟨w.heap.size + 1, 1, none⟩ = some (.bool dk) := HZ.out.2.1.cell 1
  have b2 : W.cell? ⟨w.heap.size + 1, 2, none⟩ = some (.slice A3 dks.length c3) := HZ.out.2.1.cell 2
  have b3 : W.cell? ⟨w.heap.size + 1, 3, none⟩ = some (.slice A4 dvs.length c4) := HZ.out.2.1.cell 3
  go_wp2_with fail
  refine (HSM.out W HS.out.2.2.1 HS.out.2.2.2.2).mono ?_
  rintro e' w1 ⟨rfl, n1, rfl⟩
  simp only [decide_true]
  go_wp2_with fail
  replace a0 : (W.drewN n1).cell? ⟨w.heap.size, 0, none⟩ = some (.int .i64 dv) := a0
  replace a1 : (W.drewN n1).cell? ⟨w.heap.size, 1, none⟩ = some (.bool dk) := a1
  replace a2 : (W.drewN n1).cell? ⟨w.heap.size, 2, none⟩ = some (.slice A1 dks.length c1) := a2
  replace b0 : (W.drewN n1).cell? ⟨w.heap.size + 1, 0, none⟩ = some (.int .i64 ev) := b0
  replace b2 : (W.drewN n1).cell? ⟨w.heap.size + 1, 2, none⟩ = some (.slice A3 dks.length c3) := b2
  have HG := Lib.hid (And.intro (HZ.out.2.2.trans (Below.drewN W n1)) (And.intro (HS.out.1.drewN n1) (And.intro (HS.out.2.1.below (Below.drewN W n1)) (HS.out.2.2.2.1.below (Below.drewN W n1)))))
  clear HZ HS HSM a3 b1 b3
  generalize W.drewN n1 = V at *
  go_loopw [9] (fun i wr => ∃ k n : Nat, k ≤ dks.length ∧ i = .int .i64 k ∧ wr = V.drewN n) (fun i _ => dks.length - (intOf i).toNat)
  case atStart => exact ⟨0, 0, Nat.zero_le _, rfl, rfl⟩
  case round =>
    obtain ⟨k, n, hk, rfl, hw⟩ := hrel
    have d2 : wr.cell? ⟨w.heap.size, 2, none⟩ = some (.slice A1 dks.length c1) := by rw [hw]; exact a2
    have d0 : wr.cell? ⟨w.heap.size, 0, none⟩ = some (.int .i64 dv) := by rw [hw]; exact a0
    have d1 : wr.cell? ⟨w.heap.size, 1, none⟩ = some (.bool dk) := by rw [hw]; exact a1
    have f0 : wr.cell? ⟨w.heap.size + 1, 0, none⟩ = some (.int .i64 ev) := by rw [hw]; exact b0
    have f2 : wr.cell? ⟨w.heap.size + 1, 2, none⟩ = some (.slice A3 dks.length c3) := by rw [hw]; exact b2
    have HGr : SlR wr w.heap.size (.slice A xs.length c) (xs.map i64v) ∧ SlI wr w.heap.size (.slice A1 dks.length c1) dks ∧ SlI wr w.heap.size (.slice A3 dks.length c3) eks ∧ Below w.heap.size w wr := by
      rw [hw]; exact ⟨HG.out.2.1.drewN n, HG.out.2.2.1.below (Below.drewN V n), HG.out.2.2.2.below (Below.drewN V n), HG.out.1.trans (Below.drewN V n)⟩
    have HR := Lib.hid HGr
    have HW := Lib.hid hw
    clear hw HGr a0 a1 a2 b0 b2 HG
    by_cases hlt : k < dks.length
    · obtain ⟨b, off, rfl, g1, _, x1⟩ := SlI.at_ HR.out.2.1 hlt
      have hlt2 : k < eks.length := by have := HKS.out.2; omega
      have h3 := HR.out.2.2.1
      rw [← HKS.out.2] at h3
      obtain ⟨b', off', rfl, g2, _, x2⟩ := SlI.at_ h3 hlt2
      rw [HKS.out.2] at g2
      have HMA := Lib.hid (map_at HKS.out.1 hlt hlt2)
      clear h3
      have p0 : (0 : Int) ≤ (k : Int) := by omega
      have p1 : (k : Int) < (dks.length : Int) := by omega
      generalize dks[k] = x at *
      generalize eks[k] = y at *
      clear hlt2
      have HA := Lib.hid (fun m => alike_quiet xs (.slice A xs.length c) w.heap.size x y (wr.drewN m) (HR.out.1.drewN m) HMA.out)
      clear HMA
      go_wp2_with fail
      go_quiet ((go_at_call 18; exact Calls.quiet_of (HA.out _)))
      go_wp2_with fail
      exact ⟨⟨k + 1, _, by omega, by go_num, by rw [HW.out]; exact World.drewN_drewN _ _ _⟩, by simp [intOf]; omega⟩
    · have e : k = dks.length := by omega
      subst e
      have HB := Lib.hid HR.out.2.2.2
      clear HR
      rcases HVA.out with ⟨rfl, rfl⟩ | rfl
      · go_wp2_with fail
        go_ret
        exact ⟨rfl, HB.out⟩
      · have e3 : (dv == dv) = true := by simp
        by_cases c2 : act = 2
        · subst c2
          cases dk
          · go_wp2_with fail
            go_ret
            exact ⟨rfl, HB.out⟩
          · go_wp2_with fail
            go_ret
            exact ⟨rfl, HB.out⟩
        · have e4 : (act == 2) = false := by rw [beq_eq_false_iff_ne]; exact c2
          go_wp2_with fail
          go_ret
          exact ⟨rfl, HB.out⟩
end Go.Proofs.Ytjbelfbfhcmgeaa.Kp
