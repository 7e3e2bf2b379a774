/- laws.treeRuns, of what is told the same but for heights and sizes. -/
import Derived.Test.YtjbelfbfhcmgeaaStT
import Derived.Test.YtjbelfbfhcmgeaaReg
import Derived.Deep.Cut
namespace Go.Proofs.Ytjbelfbfhcmgeaa.Kp
open Go.RowKit Om Bt

/-- a slice that tells, as it is read. -/
structure TA (w : World) (g : Nat) (i : Nat) (d : ToldD) (ka va : Value) : Prop where
  c0 : w.cell? ⟨g, i * 4, none⟩ = some (.int .i64 d.val)
  c1 : w.cell? ⟨g, i * 4 + 1, none⟩ = some (.bool d.ok)
  c2 : w.cell? ⟨g, i * 4 + 2, none⟩ = some ka
  c3 : w.cell? ⟨g, i * 4 + 3, none⟩ = some va
  ks : SlI w w.heap.size ka d.keys
  vs : SlI w w.heap.size va d.vals
  kl : d.keys.length ≤ 9223372036854775807
  vl : d.vals.length ≤ 9223372036854775807
  lt : g < w.heap.size
def TW (w : World) (v : Value) (ds : List ToldD) : Prop := ∃ A c, v = .slice A ds.length c ∧ ∀ (i : Nat) d, ds[i]? = some d → ∃ g ka va, A = some ⟨g, 0, none⟩ ∧ ds.length ≤ c ∧ TA w g i d ka va
theorem TA.below {w w' : World} {g i : Nat} {d : ToldD} {ka va : Value} (h : TA w g i d ka va) (hb : Below w.heap.size w w') : TA w' g i d ka va :=
  ⟨(hb.cell (p := ⟨g, i * 4, none⟩) h.lt).trans h.c0, (hb.cell (p := ⟨g, i * 4 + 1, none⟩) h.lt).trans h.c1, (hb.cell (p := ⟨g, i * 4 + 2, none⟩) h.lt).trans h.c2, (hb.cell (p := ⟨g, i * 4 + 3, none⟩) h.lt).trans h.c3,
    (h.ks.below hb).mono hb.size, (h.vs.below hb).mono hb.size, h.kl, h.vl, Nat.lt_of_lt_of_le h.lt hb.size⟩
theorem TW.below {w w' : World} {v : Value} {ds : List ToldD} (h : TW w v ds) (hb : Below w.heap.size w w') : TW w' v ds := by
  obtain ⟨A, c, e, h⟩ := h
  refine ⟨A, c, e, fun i d hi => ?_⟩
  obtain ⟨g, ka, va, e1, e2, h3⟩ := h i d hi
  exact ⟨g, ka, va, e1, e2, h3.below hb⟩
theorem Tolds.tw {w : World} {B : Nat} {v : Value} {ds : List ToldD} (h : Tolds w B v ds) : TW w v ds := by
  obtain ⟨A, c, e, h⟩ := h.at_ rfl
  refine ⟨A, c, e, fun i d hi => ?_⟩
  obtain ⟨g, ka, va, kc, vc, e1, e2, h3⟩ := h i d hi
  exact ⟨g, _, _, e1, e2, h3.c0, h3.c1, h3.c2, h3.c3, h3.keys, h3.vals, h3.kl, h3.vl, h3.lt⟩
theorem NS.len64 {w : World} {v : Value} {xs : List Int} (h : NS w v xs) : xs.length ≤ 9223372036854775807 := by
  cases hx : xs with
  | nil => simp
  | cons x r =>
    obtain ⟨A, c, rfl⟩ := h.form
    obtain ⟨b, off, _, h1, h2, _⟩ := h.at_ (i := 0) (by rw [hx]; simp)
    rw [← hx]; omega
theorem TS.tw {w : World} {B : Nat} {v : Value} {ds : List ToldD} {n : Nat} {cs : List Value} (hn : ds.length = n) (ho : w.ownsRow B 50 4 v n cs) (ht : TS w ds cs) : TW w v ds := by
  subst hn
  rcases ho.2 with ⟨e, h0⟩ | ⟨g, cap, cur, e, h1, h2, h3, h4, h5, h6⟩
  · exact ⟨none, 0, by rw [e, h0], fun i d hi => by rw [List.length_eq_zero_iff.1 h0] at hi; simp at hi⟩
  · refine ⟨_, cap, e, fun i d hi => ?_⟩
    have hil : i < ds.length := (List.getElem?_eq_some_iff.1 hi).1
    obtain ⟨ka, va, a0, a1, a2, a3, o1, o2⟩ := ht.at_ hi
    have key : ∀ j x, j < ds.length * 4 → cs[j]? = some x → w.cell? ⟨g, j, none⟩ = some x := by
      intro j x hj hx
      rw [← h6, List.getElem?_take_of_lt hj] at hx
      have : w.cell? ⟨g, j, none⟩ = cur[j]? := (show Blk w g cur _ from h2).cell j
      rw [this, ← hx]; simp
    exact ⟨g, ka, va, rfl, h3, key _ _ (by omega) a0, key _ _ (by omega) a1, key _ _ (by omega) a2, key _ _ (by omega) a3, o1.slI, o2.slI, o1.len64, o2.len64, (Array.getElem?_eq_some_iff.1 h2).1⟩
theorem cells9_next {wr w w' : World} {p0 p1 p2 p3 p4 p5 p6 p7 p8 : Addr} {v0 v1 v2 v3 v4 v5 v6 v7 v8 : Value} (hb : Below w.heap.size w w')
    (h : w.cell? p0 = some v0 ∧ w.cell? p1 = some v1 ∧ w.cell? p2 = some v2 ∧ w.cell? p3 = some v3 ∧ w.cell? p4 = some v4 ∧ w.cell? p5 = some v5 ∧ w.cell? p6 = some v6 ∧ w.cell? p7 = some v7 ∧ w.cell? p8 = some v8 ∧ Below wr.heap.size wr w) :
    w'.cell? p0 = some v0 ∧ w'.cell? p1 = some v1 ∧ w'.cell? p2 = some v2 ∧ w'.cell? p3 = some v3 ∧ w'.cell? p4 = some v4 ∧ w'.cell? p5 = some v5 ∧ w'.cell? p6 = some v6 ∧ w'.cell? p7 = some v7 ∧ w'.cell? p8 = some v8 ∧ Below wr.heap.size wr w' := by
  obtain ⟨h0, h1, h2, h3, h4, h5, h6, h7, h8, h9⟩ := h
  have k : ∀ {p : Addr} {v : Value}, w.cell? p = some v → w'.cell? p = some v := fun hc => (hb.cell (World.block_lt_of_cell? w _ hc)).trans hc
  exact ⟨k h0, k h1, k h2, k h3, k h4, k h5, k h6, k h7, k h8, h9.trans (hb.mono h9.size)⟩
set_option maxRecDepth 100000 in
set_option maxHeartbeats 3200000 in
theorem treeRuns_calls (xs : List Int) (tv av gv wv : Value) (l : List ActD) (ds es : List ToldD) (w : World) (ht : SlR w w.heap.size tv (xs.map i64v)) (ha : SlA w w.heap.size av l) (hg : TW w gv ds) (hw : TW w wv es) (hd : ds.length = l.length) (he : es.length = l.length) (hl : l.length ≤ 7000000000)
    (hs : ∀ (i : Nat) a d e, l[i]? = some a → ds[i]? = some d → es[i]? = some e → a.act ≠ 3 → SameT (rankOf xs) a d e) :
    Calls Try.prog 8 #[tv, av, gv, wv, .bool false] w fun e w' => e = .returned (.bool true) ∧ Below w.heap.size w w' := by
  obtain ⟨A, c, rfl⟩ := ht.form
  rw [List.length_map] at *
  obtain ⟨A1, c1, rfl⟩ := ha.form
  obtain ⟨A2, c2, rfl, hg⟩ := hg
  obtain ⟨A3, c3, rfl, hw⟩ := hw
  rw [hd] at hg ⊢
  rw [he] at hw ⊢
  have HT := Lib.hid ht
  have HA := Lib.hid ha
  have HG := Lib.hid hg
  have HW := Lib.hid hw
  have HS := Lib.hid hs
  have HDE := Lib.hid (And.intro hd he)
  have e2 : ((l.length : Int) != (l.length : Int)) = false := by simp
  clear ht ha hg hw hs hd he
  go_enter Try.func8, Try.ntmps8
  go_wp2_with fail
  clear e2
  go_loopw [11] (fun i wr => ∃ k : Nat, k ≤ l.length ∧ i = .int .i64 k ∧ Hid (Below w.heap.size w wr)) (fun i _ => l.length - (intOf i).toNat)
  case atStart => exact ⟨0, Nat.zero_le _, rfl, Lib.hid (Below.refl _ _)⟩
  case round =>
    obtain ⟨k, hk, rfl, HB⟩ := hrel
    by_cases hlt : k < l.length
    · obtain ⟨b, off, a, rfl, h1, h3, h4, ha5, z0, _, _⟩ := HA.out.at_ hlt
      obtain ⟨d, hdk⟩ : ∃ d, ds[k]? = some d := ⟨_, List.getElem?_eq_getElem (by have := HDE.out.1; omega)⟩
      obtain ⟨e, hek⟩ : ∃ e, es[k]? = some e := ⟨_, List.getElem?_eq_getElem (by have := HDE.out.2; omega)⟩
      obtain ⟨gb, ka, va, rfl, hc2, hTd⟩ := HG.out k d hdk
      obtain ⟨wb, kb, vb, rfl, hc3, hTe⟩ := HW.out k e hek
      have q0 := (HB.out.cell (p := ⟨b, off + k * 3, none⟩) h3).trans z0
      have Td := hTd.below HB.out
      have Te := hTe.below HB.out
      have hcon := Lib.hid (fun (h3 : a.act ≠ 3) (w' : World) (hb : Below wr.heap.size wr w') => sameTold_calls xs (.slice A xs.length c) a.act d e ka va kb vb w' ((HT.out.below (HB.out.trans (hb.mono HB.out.size))).mono (HB.out.trans (hb.mono HB.out.size)).size) (Td.below hb).ks (Td.below hb).vs (Te.below hb).ks (Te.below hb).vs Td.kl Td.vl (HS.out k a d e ha5 hdk hek h3))
      have p0 : (0 : Int) ≤ (k : Int) := by omega
      have p1 : (k : Int) < (l.length : Int) := by omega
      have r2 : decide ((k : Int) < (l.length : Int)) = true := decide_eq_true p1
      have HC := Lib.hid (And.intro q0 (And.intro Td.c0 (And.intro Td.c1 (And.intro Td.c2 (And.intro Td.c3 (And.intro Te.c0 (And.intro Te.c1 (And.intro Te.c2 (And.intro Te.c3 (Below.refl wr.heap.size wr))))))))))
      obtain ⟨act, key, val⟩ := a
      simp only at HC hcon
      clear q0 Td Te hTd hTe z0 ha5 hdk hek
      go_wp2_with fail
      go_cut [57] (fun s wx => s = .bool false ∧ Below wr.heap.size wr wx)
      case first =>
        by_cases c5 : act = 5
        · have e5 : (act != 5) = false := by rw [c5]; rfl
          have e3 : (act != 3) = true := by rw [c5]; rfl
          clear hcon
          refine region_runs (S := (fun w' => w'.cell? ⟨b, off + k * 3, none⟩ = some (.int .i64 act) ∧ w'.cell? ⟨gb, k * 4, none⟩ = some (.int .i64 d.val) ∧ w'.cell? ⟨gb, k * 4 + 1, none⟩ = some (.bool d.ok) ∧ w'.cell? ⟨gb, k * 4 + 2, none⟩ = some ka ∧ w'.cell? ⟨gb, k * 4 + 3, none⟩ = some va ∧ w'.cell? ⟨wb, k * 4, none⟩ = some (.int .i64 e.val) ∧ w'.cell? ⟨wb, k * 4 + 1, none⟩ = some (.bool e.ok) ∧ w'.cell? ⟨wb, k * 4 + 2, none⟩ = some kb ∧ w'.cell? ⟨wb, k * 4 + 3, none⟩ = some vb ∧ Below wr.heap.size wr w')) (by kernel_rfl) (by kernel_rfl) (by kernel_rfl) (cells9_next (w' := wr.drew) (Below.drewN wr 1) HC.out) ?_
          iterate 35
            first
            | (refine Runs.off (by rfl) ?_
               simp only [Act.put, List.setIfInBounds_toArray, List.set_cons_zero, List.set_cons_succ])
            | (refine Runs.take (v := ?_) (by rfl) ?_ ?_
               rotate_left 1
               · intro w hSw; (try dsimp only at hSw); go_simp; (try with_reducible rfl)
               simp only [Act.put, List.setIfInBounds_toArray, List.set_cons_zero, List.set_cons_succ])
            | fail
          dsimp only [Runs]
          intro w' hH
          go_wp2_with fail
          go_meet
          exact ⟨rfl, hH.2.2.2.2.2.2.2.2.2⟩
        · have e5 : (act != 5) = true := by simpa using c5
          by_cases c3' : act = 3
          · have e3 : (act != 3) = false := by rw [c3']; rfl
            clear hcon
            refine region_runs (S := (fun w' => w'.cell? ⟨b, off + k * 3, none⟩ = some (.int .i64 act) ∧ w'.cell? ⟨gb, k * 4, none⟩ = some (.int .i64 d.val) ∧ w'.cell? ⟨gb, k * 4 + 1, none⟩ = some (.bool d.ok) ∧ w'.cell? ⟨gb, k * 4 + 2, none⟩ = some ka ∧ w'.cell? ⟨gb, k * 4 + 3, none⟩ = some va ∧ w'.cell? ⟨wb, k * 4, none⟩ = some (.int .i64 e.val) ∧ w'.cell? ⟨wb, k * 4 + 1, none⟩ = some (.bool e.ok) ∧ w'.cell? ⟨wb, k * 4 + 2, none⟩ = some kb ∧ w'.cell? ⟨wb, k * 4 + 3, none⟩ = some vb ∧ Below wr.heap.size wr w')) (by kernel_rfl) (by kernel_rfl) (by kernel_rfl) (cells9_next (w' := wr.drew) (Below.drewN wr 1) HC.out) ?_
            iterate 35
              first
              | (refine Runs.off (by rfl) ?_
                 simp only [Act.put, List.setIfInBounds_toArray, List.set_cons_zero, List.set_cons_succ])
              | (refine Runs.take (v := ?_) (by rfl) ?_ ?_
                 rotate_left 1
                 · intro w hSw; (try dsimp only at hSw); go_simp; (try with_reducible rfl)
                 simp only [Act.put, List.setIfInBounds_toArray, List.set_cons_zero, List.set_cons_succ])
              | fail
            dsimp only [Runs]
            intro w' hH
            go_wp2_with fail
            go_meet
            exact ⟨rfl, hH.2.2.2.2.2.2.2.2.2⟩
          · have e3 : (act != 3) = true := by simpa using c3'
            refine region_runs (S := (fun w' => w'.cell? ⟨b, off + k * 3, none⟩ = some (.int .i64 act) ∧ w'.cell? ⟨gb, k * 4, none⟩ = some (.int .i64 d.val) ∧ w'.cell? ⟨gb, k * 4 + 1, none⟩ = some (.bool d.ok) ∧ w'.cell? ⟨gb, k * 4 + 2, none⟩ = some ka ∧ w'.cell? ⟨gb, k * 4 + 3, none⟩ = some va ∧ w'.cell? ⟨wb, k * 4, none⟩ = some (.int .i64 e.val) ∧ w'.cell? ⟨wb, k * 4 + 1, none⟩ = some (.bool e.ok) ∧ w'.cell? ⟨wb, k * 4 + 2, none⟩ = some kb ∧ w'.cell? ⟨wb, k * 4 + 3, none⟩ = some vb ∧ Below wr.heap.size wr w')) (by kernel_rfl) (by kernel_rfl) (by kernel_rfl) (cells9_next (w' := wr.drew) (Below.drewN wr 1) HC.out) ?_
            iterate 35
              first
              | (refine Runs.off (by rfl) ?_
                 simp only [Act.put, List.setIfInBounds_toArray, List.set_cons_zero, List.set_cons_succ])
              | (refine Runs.take (v := ?_) (by rfl) ?_ ?_
                 rotate_left 1
                 · intro w hSw; (try dsimp only at hSw); go_simp; (try with_reducible rfl)
                 simp only [Act.put, List.setIfInBounds_toArray, List.set_cons_zero, List.set_cons_succ])
              | (refine Runs.call (v := ?_) (f := ?_) (args := ?_) (by rfl) ?_ ?_ ?_
                 rotate_left 3
                 · intro w hSw; (try dsimp only at hSw); go_simp; (first | with_reducible rfl | (refine ⟨?_, ?_⟩ <;> with_reducible rfl))
                 · intro w hSw
                   go_at_call 26
                   refine (hcon.out c3' w hSw.2.2.2.2.2.2.2.2.2).mono ?_
                   rintro e' w' ⟨rfl, hb⟩
                   refine ⟨?_, cells9_next hb hSw⟩
                   (try with_reducible rfl)
                 simp only [Act.put, List.setIfInBounds_toArray, List.set_cons_zero, List.set_cons_succ])
              | fail
            dsimp only [Runs]
            intro w' hH
            go_wp2_with fail
            go_meet
            exact ⟨rfl, hH.2.2.2.2.2.2.2.2.2⟩
      case rest =>
        obtain ⟨rfl, hH⟩ := hcut
        have HB2 := Lib.hid (HB.out.trans (hH.mono HB.out.size))
        clear hH HC hcon
        go_wp2_with fail
        exact ⟨⟨k + 1, by omega, by go_num, HB2⟩, by simp [intOf]; omega⟩
    · have : k = l.length := by omega
      subst this
      go_wp2_with fail
      go_ret
      exact ⟨rfl, HB.out⟩
end Go.Proofs.Ytjbelfbfhcmgeaa.Kp
