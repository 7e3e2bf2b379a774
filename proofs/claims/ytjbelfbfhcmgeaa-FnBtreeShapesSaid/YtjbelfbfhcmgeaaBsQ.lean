/- spec.Parted: the parts of each node hold what lies between its keys. -/
import Derived.Test.YtjbelfbfhcmgeaaBsK2
namespace Go.Proofs.Ytjbelfbfhcmgeaa.Kp
open Go.RowKit Om Bt

theorem NS.key {w : World} {n c : Nat} {A : Option Addr} {α : Type} {ks : List (Int × α)} (h : NS w (.slice A n c) (ks.map Prod.fst)) {i : Nat} {e : Int × α} (he : ks[i]? = some e) : ∃ b off, A = some ⟨b, off, none⟩ ∧ ks.length ≤ c ∧ b < w.heap.size ∧ w.cell? ⟨b, off + i, none⟩ = some (.int .i64 e.1) := by
  have hlt := (List.getElem?_eq_some_iff.1 he).1
  obtain ⟨b, off, e1, h1, _, h3, h4⟩ := h.at_ (i := i) (by rw [List.length_map]; exact hlt)
  refine ⟨b, off, e1, by simpa using h1, h3, ?_⟩
  rw [h4, List.getD_eq_getElem?_getD, List.getElem?_map, he]; rfl
set_option maxRecDepth 100000 in
set_option maxHeartbeats 6400000 in
theorem parted_calls (xs : List Int) (ov nv kv : Value) (h : Nat) (t : BE h) (ns : List KnD) (hns : ns = shapeE h t) (w : World) (hw : Bt.Wf (rankOf xs) h t) (hn : ns.length ≤ 5000000000) (hl : (Bt.flat h t).length ≤ 10000000000) (ho : SlR w w.heap.size ov (xs.map i64v)) (hr : KR w nv ns) (hk : KT2 w w.heap.size kv ns) :
    Calls Try.prog 14 #[ov, nv, kv] w fun e w' => e = .returned (.bool true) ∧ Below w.heap.size w w' := by
  have hS : ∀ i, i < ns.length → ∃ (h' : Nat) (t' : BE h'), StE ns i h' t' ∧ Bt.Wf (rankOf xs) h' t' ∧ (Bt.flat h' t').length ≤ 10000000000 := fun i hi => by
    have h0 : StE ns 0 h t := by subst hns; exact StE.all h t
    obtain ⟨h', t', _, h2, h3, h4⟩ := StE.sub h t 0 hw h0 i (Nat.zero_le _) (by rw [← hns]; omega)
    exact ⟨h', t', h2, h3, by omega⟩
  have HS := Lib.hid hS
  have HFL := Lib.hid hl
  obtain ⟨A, c, rfl⟩ := ho.form
  rw [List.length_map] at *
  obtain ⟨A1, c1, rfl⟩ := hr.form
  obtain ⟨A2, c2, rfl⟩ := hk.form
  have HO := Lib.hid ho
  have HR := Lib.hid (And.intro hr hk)
  clear ho hr hk hS hl hns hw
  go_enter Try.func14, Try.ntmps14
  go_wp2_with fail
  go_loopw [7] (fun i wx => ∃ k : Nat, k ≤ ns.length ∧ i = .int .i64 (k : Nat) ∧ Hid (Below w.heap.size w wx)) (fun i _ => ns.length - (intOf i).toNat)
  case atStart => exact ⟨0, Nat.zero_le _, rfl, Lib.hid (Below.refl _ _)⟩
  case round =>
    obtain ⟨i, hi, rfl, HB⟩ := hrel
    by_cases hlt : i < ns.length
    · obtain ⟨W, hW⟩ : ∃ W, W = wr := ⟨_, rfl⟩
      subst hW
      obtain ⟨h', t', hst, hwf, hwl⟩ := HS.out i hlt
      have hRW := HR.out.1.below HB.out
      have hKW := HR.out.2.go HB.out
      cases h' with
      | zero =>
        obtain ⟨b, off, ka, va, ba, rfl, h1, h3, q0, _, _, _, _, _, _⟩ := hRW.at_ hst.leaf
        replace q0 : W.cell? ⟨b, off + i * 4, none⟩ = some (.bool true) := q0
        clear hst hwf hwl hRW hKW
        go_wp2_with fail
        exact ⟨⟨i + 1, by omega, by go_num, HB⟩, by simp [intOf]; omega⟩
      | succ m =>
        obtain ⟨ks, hks⟩ : ∃ k : List (Int × BE m), k = t' := ⟨t', rfl⟩
        subst hks
        have hw' : WfN (rankOf xs) (Bt.Wf (rankOf xs) m) (Bt.flat m) ks := hwf
        obtain ⟨b, off, ka, va, ba, rfl, h1, h3, q0, q1, _, _, n1, _, _⟩ := hRW.at_ hst.node
        replace q0 : W.cell? ⟨b, off + i * 4, none⟩ = some (.bool false) := q0
        replace n1 : NS W ka (ks.map Prod.fst) := n1
        have f1 := n1.form
        rw [List.length_map] at f1
        obtain ⟨Ak, ck, rfl⟩ := f1
        obtain ⟨kb, koff, A3, c3, rfl, k1, k3, q2, hq⟩ := hKW.at_ hst
        have HQ := Lib.hid hq
        have HN := Lib.hid n1
        have hks : ks.length ≤ 64 := by have := hw'.2.1; omega
        have HST := Lib.hid (And.intro hst (And.intro hwf (And.intro hw'.2.2.1 hwl)))
        have HC := Lib.hid (fun wx (hb : Below W.heap.size W wx) => And.intro ((hb.cell (p := ⟨b, off + i * 4 + 1, none⟩) h3).trans q1) ((hb.cell (p := ⟨kb, koff + i, none⟩) k3).trans q2))
        have HW := Lib.hid (And.intro hRW hKW)
        have HOW := Lib.hid ((HO.out.below HB.out).mono HB.out.size)
        clear hq n1 hst hwf hwl hw' hRW hKW q1 q2
        go_wp2_with fail
        go_loopw [8] (fun i wx => ∃ k : Nat, k ≤ ks.length ∧ i = .int .i64 (k : Nat) ∧ Hid (Below W.heap.size W wx)) (fun i _ => ks.length - (intOf i).toNat)
        case atStart => exact ⟨0, Nat.zero_le _, rfl, Lib.hid (Below.refl _ _)⟩
        case round =>
          obtain ⟨k, hkl, rfl, HB2⟩ := hrel
          obtain ⟨q1, q2⟩ := HC.out wr HB2.out
          have hsz := HB2.out.size
          have bl1 : b < wr.heap.size := by omega
          have bl2 : kb < wr.heap.size := by omega
          by_cases hlk : k < ks.length
          · obtain ⟨b2, off2, rfl, g1, g3, q3⟩ := HQ.out k hlk
            have q3' := (HB2.out.cell (p := ⟨b2, off2 + k, none⟩) g3).trans q3
            have bl3 : b2 < wr.heap.size := by omega
            obtain ⟨e, he⟩ : ∃ e, ks[k]? = some e := ⟨_, List.getElem?_eq_getElem hlk⟩
            have hfl : (Bt.flat m e.2).length ≤ 10000000000 := Nat.le_trans (flat_part he) HST.out.2.2.2
            have HCa := Lib.hid (held_calls ns hn _ _ m e.2 _ wr (HST.out.2.2.1 e (List.mem_of_getElem? he)).1 (HST.out.1.part he) (HW.out.1.below HB2.out) (HW.out.2.go HB2.out) hfl)
            have HPT := Lib.hid (fun (x : LE) hx => parted (x := x) HST.out.2.1 he hx)
            have HE := Lib.hid he
            generalize Bt.flat m e.2 = F at HCa HPT hfl
            clear he q3
            go_wp2_with fail
            refine HCa.out.mono ?_
            rintro e' w2 ⟨kv2, vv2, bv2, rfl, n1, n2, n3, b2'⟩
            have f1 := n1.form
            rw [List.length_map] at f1
            obtain ⟨Ak2, ck2, rfl⟩ := f1
            have H2 := Lib.hid (And.intro n1 (HB2.out.trans (b2'.mono hsz)))
            clear n1 n2 n3 b2' HCa q1 q2 q3' bl1 bl2 bl3
            obtain ⟨W2, hW2⟩ : ∃ x, x = w2 := ⟨_, rfl⟩
            subst hW2
            obtain ⟨q1, _⟩ := HC.out W2 H2.out.2
            have hsz2 := H2.out.2.size
            have bl1 : b < W2.heap.size := by omega
            go_wp2_with fail
            go_loopw [13] (fun i wx => ∃ j : Nat, j ≤ F.length ∧ i = .int .i64 (j : Nat) ∧ wx = W2) (fun i _ => F.length - (intOf i).toNat)
            case atStart => exact ⟨0, Nat.zero_le _, by first | exact trivial | rfl, by first | exact trivial | rfl⟩
            case round =>
              obtain ⟨j, hj, rfl, hwr⟩ := hrel
              subst hwr
              by_cases hlj : j < F.length
              · obtain ⟨x, hx⟩ : ∃ e, F[j]? = some e := ⟨_, List.getElem?_eq_getElem hlj⟩
                obtain ⟨hp1, hp2⟩ := HPT.out x (List.mem_of_getElem? hx)
                obtain ⟨bx, offx, rfl, x1, _, x3, x4⟩ := H2.out.1.at_ (i := j) (by rw [List.length_map]; exact hlj)
                rw [List.length_map] at x1
                have x5 : (F.map fun e => e.1).getD j 0 = x.1 := by
                  rw [List.getD_eq_getElem?_getD, List.getElem?_map, hx]; rfl
                rw [x5] at x4
                have HRK := Lib.hid (fun z => specRank_calls xs (.slice A xs.length c) wr.heap.size z wr ((HOW.out.below H2.out.2).mono hsz2))
                have HNw := Lib.hid (HN.out.below H2.out.2)
                obtain ⟨bk, offk, rfl, y1, y3, y4⟩ := HNw.out.key HE.out
                generalize x.1 = X at *
                generalize e.1 = Y at *
                clear hx x5
                have p0 : (0 : Int) ≤ (k : Int) := by omega
                have p1 : (k : Int) < (ks.length : Int) := by omega
                have p2 : IntKind.i64.wrap ((k : Int) + 1) = (k : Int) + 1 := IntWalk.i64_in _ (by omega)
                have p3 : ((k : Int) + 1).toNat = k + 1 := by omega
                have p4 : (0 : Int) ≤ (k : Int) + 1 := by omega
                by_cases hk0 : 0 < k
                · have g0 : decide (0 < (k : Int)) = true := decide_eq_true (by omega)
                  have g1 : decide (rankOf xs X < rankOf xs Y) = false := decide_eq_false (by have := hp1 hk0; omega)
                  by_cases hk1 : k + 1 < ks.length
                  · obtain ⟨y, hy⟩ : ∃ e, ks[k + 1]? = some e := ⟨_, List.getElem?_eq_getElem hk1⟩
                    obtain ⟨bk', offk', hbo, _, _, z4⟩ := HNw.out.key hy
                    obtain ⟨rfl, rfl⟩ : bk = bk' ∧ offk = offk' := by simpa using hbo
                    have hp2 := hp2 y hy
                    generalize y.1 = Z at *
                    have g2 : decide ((k : Int) + 1 < (ks.length : Int)) = true := decide_eq_true (by omega)
                    have g3 : decide (rankOf xs Z ≤ rankOf xs X) = false := decide_eq_false (by omega)
                    have g4 : (k : Int) + 1 < (ks.length : Int) := by omega
                    clear hbo hp1 hp2 hy
                    go_wp2_with (go_at_call 17; refine (HRK.out _).mono ?_; rintro e' w9 ⟨rfl, rfl⟩)
                    all_goals exact ⟨⟨j + 1, by omega, by go_num, by first | exact trivial | rfl⟩, by simp [intOf]; omega⟩
                  · have g2 : decide ((k : Int) + 1 < (ks.length : Int)) = false := decide_eq_false (by omega)
                    clear hp1 hp2
                    go_wp2_with (go_at_call 17; refine (HRK.out _).mono ?_; rintro e' w9 ⟨rfl, rfl⟩)
                    all_goals exact ⟨⟨j + 1, by omega, by go_num, by first | exact trivial | rfl⟩, by simp [intOf]; omega⟩
                · have g0 : decide (0 < (k : Int)) = false := decide_eq_false (by omega)
                  by_cases hk1 : k + 1 < ks.length
                  · obtain ⟨y, hy⟩ : ∃ e, ks[k + 1]? = some e := ⟨_, List.getElem?_eq_getElem hk1⟩
                    obtain ⟨bk', offk', hbo, _, _, z4⟩ := HNw.out.key hy
                    obtain ⟨rfl, rfl⟩ : bk = bk' ∧ offk = offk' := by simpa using hbo
                    have hp2 := hp2 y hy
                    generalize y.1 = Z at *
                    have g2 : decide ((k : Int) + 1 < (ks.length : Int)) = true := decide_eq_true (by omega)
                    have g3 : decide (rankOf xs Z ≤ rankOf xs X) = false := decide_eq_false (by omega)
                    have g4 : (k : Int) + 1 < (ks.length : Int) := by omega
                    clear hbo hp1 hp2 hy
                    go_wp2_with (go_at_call 17; refine (HRK.out _).mono ?_; rintro e' w9 ⟨rfl, rfl⟩)
                    all_goals exact ⟨⟨j + 1, by omega, by go_num, by first | exact trivial | rfl⟩, by simp [intOf]; omega⟩
                  · have g2 : decide ((k : Int) + 1 < (ks.length : Int)) = false := decide_eq_false (by omega)
                    clear hp1 hp2
                    go_wp2_with (go_at_call 17; refine (HRK.out _).mono ?_; rintro e' w9 ⟨rfl, rfl⟩)
                    all_goals exact ⟨⟨j + 1, by omega, by go_num, by first | exact trivial | rfl⟩, by simp [intOf]; omega⟩
              · have : j = F.length := by omega
                subst this
                go_wp2_with fail
                exact ⟨⟨k + 1, by omega, by go_num, Lib.hid H2.out.2⟩, by simp [intOf]; omega⟩
          · have : k = ks.length := by omega
            subst this
            go_wp2_with fail
            exact ⟨⟨i + 1, by omega, by go_num, Lib.hid (HB.out.trans (HB2.out.mono HB.out.size))⟩, by simp [intOf]; omega⟩
    · have : i = ns.length := by omega
      subst this
      go_wp2
      go_ret
      exact ⟨rfl, HB.out⟩
end Go.Proofs.Ytjbelfbfhcmgeaa.Kp
