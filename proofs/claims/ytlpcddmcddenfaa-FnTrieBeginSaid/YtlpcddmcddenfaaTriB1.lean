/- spec.Words: at, Get. -/
import Derived.Test.YtlpcddmcddenfaaTriB0
namespace Go.Proofs.Ytlpcddmcddenfaa.Kp
open Go.RowKit Tri

/-- texts with values, as many of these as of those. -/
structure WV (w : World) (kv vv : Value) (n : Nat) (ks : List Txt) (vs : List Int) : Prop where
  k : NX 9 str w kv ks
  v : NXI w vv vs
  kl : ks.length = n
  vl : vs.length = n
  fit : ∀ x ∈ ks, x.length ≤ 2147483647
theorem WV.below {w w' : World} {kv vv : Value} {n : Nat} {ks : List Txt} {vs : List Int} (h : WV w kv vv n ks vs) (hb : Below w.heap.size w w') : WV w' kv vv n ks vs := ⟨h.k.below hb, h.v.below hb, h.kl, h.vl, h.fit⟩
theorem NX.hmax {α : Type} {T : TypeId} {f : α → Value} {w : World} {A : Option Addr} {n c : Nat} {xs : List α} (h : NX T f w (.slice A n c) xs) : c ≤ 9223372036854775807 := by
  rcases h.is with ⟨e, _⟩ | ⟨_, _, _, _, e, _, h2, _⟩
  · simp only [Value.slice.injEq] at e; omega
  · simp only [Value.slice.injEq] at e; omega
set_option maxRecDepth 100000 in
set_option maxHeartbeats 1600000 in
theorem at_calls (kv vv : Value) (n : Nat) (ks : List Txt) (vs : List Int) (key : Txt) (w : World) (h : WV w kv vv n ks vs) (hn : n ≤ 4294967296) :
    Calls Try.prog 33 #[.agg #[kv, vv], str key] w fun e w' => ∃ (i : Nat) (bv : Value), e = .returned (.tuple #[.int .i64 i, bv]) ∧ i ≤ n ∧ (bv = .bool false ∨ (bv = .bool true ∧ i < n)) ∧ Below w.heap.size w w' := by
  obtain ⟨Ak, ck, rfl⟩ := h.k.form
  obtain ⟨Av, cv, rfl⟩ := h.v.form
  have hkl := h.kl
  have hvl := h.vl
  obtain ⟨W, hW⟩ : ∃ W, W = w.alloc (.cells #[.slice Ak ks.length ck, .slice Av vs.length cv] 49) := ⟨_, rfl⟩
  have hb : Below w.heap.size w W := by rw [hW]; exact (Below.refl _ w).alloc (Nat.le_refl _) _
  have hx : Blk W w.heap.size #[.slice Ak ks.length ck, .slice Av vs.length cv] 49 := by rw [hW]; exact Blk.new _ _ _
  have HH := Lib.hid (And.intro (h.k.below hb) (And.intro hb hx))
  have HW := Lib.hid hW
  have HN := Lib.hid (And.intro hkl hvl)
  have hmk := h.k.hmax
  clear h hb hx hW hkl hvl
  obtain ⟨b0, hb0⟩ : ∃ b0, b0 = w.heap.size := ⟨_, rfl⟩
  have HB0 := Lib.hid hb0
  clear hb0
  go_enter Try.func33, Try.ntmps33
  go_wp2_with fail
  go_loopw [6] (fun i wr => ∃ k : Nat, k ≤ ks.length ∧ i = .int .i64 (k : Nat) ∧ Hid (wr = W)) (fun i _ => ks.length - (intOf i).toNat)
  case atStart => exact ⟨0, Nat.zero_le _, rfl, HW.out.symm⟩
  case round =>
    obtain ⟨k, hk, rfl, HR⟩ := hrel
    have hwr := HR.out
    subst hwr
    have c0 : wr.cell? ⟨w.heap.size, 0, none⟩ = some (.slice Ak ks.length ck) := HH.out.2.2.cell 0
    clear HW HR
    by_cases hlt : k < ks.length
    · obtain ⟨x, hx⟩ : ∃ x, ks[k]? = some x := ⟨_, List.getElem?_eq_getElem hlt⟩
      obtain ⟨b, off, rfl, l1, l2, l3, lx⟩ := HH.out.1.at_ hx
      have hk1 : (k : Int) < (ks.length : Int) := by omega
      clear hx
      cases hl : Op.bytesLess x key with
      | true =>
        go_wp2_with fail
        exact ⟨⟨k + 1, by omega, by go_num, by first | trivial | rfl⟩, by simp [intOf]; omega⟩
      | false =>
        go_wp2_with fail
        cases hq : (x == key) with
        | true =>
          go_quiet (fail)
          go_wp2_with fail
          go_ret2
          exact ⟨k, _, rfl, by have := HN.out.1; omega, .inr ⟨rfl, by have := HN.out.1; omega⟩, HH.out.2.1.trans (Below.drewN _ _)⟩
        | false =>
          go_quiet (fail)
          go_wp2_with fail
          go_ret2
          exact ⟨k, _, rfl, by have := HN.out.1; omega, .inl rfl, HH.out.2.1.trans (Below.drewN _ _)⟩
    · have hk1 : ¬ (k : Int) < (ks.length : Int) := by omega
      have hk2 : decide ((k : Int) < (ks.length : Int)) = false := decide_eq_false hk1
      have hk3 : decide (k < ks.length) = false := decide_eq_false hlt
      go_wp2_with fail
      go_quiet (fail)
      go_wp2_with fail
      go_ret2
      exact ⟨k, _, rfl, by have := HN.out.1; omega, .inl rfl, HH.out.2.1.trans (Below.drewN _ _)⟩
set_option maxRecDepth 100000 in
set_option maxHeartbeats 1600000 in
theorem wget_calls (kv vv : Value) (n : Nat) (ks : List Txt) (vs : List Int) (key : Txt) (w : World) (h : WV w kv vv n ks vs) (hn : n ≤ 4294967296) :
    Calls Try.prog 22 #[.agg #[kv, vv], str key] w fun e w' => ∃ (i : Int) (bv : Value), e = .returned (.tuple #[.int .i64 i, bv]) ∧ (bv = .bool false ∨ bv = .bool true) ∧ Below w.heap.size w w' := by
  obtain ⟨Ak, ck, rfl⟩ := h.k.form
  obtain ⟨Av, cv, rfl⟩ := h.v.form
  have hvl := h.vl
  obtain ⟨W, hW⟩ : ∃ W, W = w.alloc (.cells #[.slice Ak ks.length ck, .slice Av vs.length cv] 49) := ⟨_, rfl⟩
  have hb : Below w.heap.size w W := by rw [hW]; exact (Below.refl _ w).alloc (Nat.le_refl _) _
  have hx : Blk W w.heap.size #[.slice Ak ks.length ck, .slice Av vs.length cv] 49 := by rw [hW]; exact Blk.new _ _ _
  have HA := Lib.hid (at_calls _ _ n ks vs key W (h.below hb) hn)
  have HH := Lib.hid (And.intro h (And.intro hb hx))
  have HW := Lib.hid hW
  have c0 := hx.cell 0
  have c1 := hx.cell 1
  simp only [List.getElem?_toArray] at c0 c1
  have hb0 := hx.lt
  have HV := Lib.hid hvl
  clear h hb hx hW hvl
  go_enter Try.func22, Try.ntmps22
  go_upto_region 1 with (fail)
  change Code.wp _ _ _ _ (w.alloc (.cells #[.slice Ak ks.length ck, .slice Av vs.length cv] 49))
  rw [← HW.out]
  go_wp2_with fail
  refine HA.out.mono ?_
  rintro e w1 ⟨i, bv, rfl, hi, hbv, b1⟩
  have hB := HH.out.2.1.trans (b1.mono HH.out.2.1.size)
  have d1 := (HH.out.2.2.below b1 HH.out.2.2.lt).cell 1
  simp only [List.getElem?_toArray] at d1
  have HB := Lib.hid hB
  rcases hbv with rfl | ⟨rfl, hi2⟩
  · clear hB b1 c0 c1
    go_wp2_with fail
    go_ret2
    exact ⟨0, _, rfl, .inl rfl, HB.out⟩
  · have hil : i < vs.length := by rw [HV.out]; exact hi2
    obtain ⟨x, hx⟩ : ∃ x, vs[i]? = some x := ⟨_, List.getElem?_eq_getElem hil⟩
    obtain ⟨b, off, rfl, l1, l2, l3, lx⟩ := (HH.out.1.v.below hB).at_ hx
    clear hB b1 c0 c1 hx
    go_wp2_with fail
    go_ret2
    exact ⟨x, _, rfl, .inr rfl, HB.out⟩
end Go.Proofs.Ytlpcddmcddenfaa.Kp
