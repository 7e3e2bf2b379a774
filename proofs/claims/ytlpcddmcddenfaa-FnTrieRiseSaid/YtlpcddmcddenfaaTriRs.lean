/- laws.FnTrieRise: the walk. -/
import Derived.Test.YtlpcddmcddenfaaTriZ
import Derived.WalkLawsBesides
namespace Go.Proofs.Ytlpcddmcddenfaa.Kp
open Go.RowKit Tri

theorem Told.open {w : World} {B : Nat} {v : Value} {ds : List SaysD} (h : Told w B v ds) (h0 : 0 < ds.length) : ∃ g cap, v = .slice (some ⟨g, 0, none⟩) ds.length cap ∧ B ≤ g ∧ g < w.heap.size ∧ ds.length ≤ cap ∧
    ∀ i d, ds[i]? = some d → ∃ kA kc, w.cell? ⟨g, i * 4, none⟩ = some (.int .i64 d.val) ∧ w.cell? ⟨g, i * 4 + 1, none⟩ = some (.bool d.ok) ∧ w.cell? ⟨g, i * 4 + 2, none⟩ = some (str d.key) ∧ w.cell? ⟨g, i * 4 + 3, none⟩ = some (.slice kA d.keys.length kc) ∧ NX 9 str w (.slice kA d.keys.length kc) d.keys := by
  obtain ⟨cs, o3, t3⟩ := h
  rcases o3.2 with ⟨_, h0'⟩ | ⟨g, cap, cur, rfl, h1, h2, h3, h4, h5, h6⟩
  · omega
  refine ⟨g, cap, rfl, h1, heap_lt h2, h3, fun i d hd => ?_⟩
  obtain ⟨kv, r0, r1, r2, r3, hk⟩ := t3.at_ hd
  obtain ⟨kA, kc, rfl⟩ := hk.form
  have hat : ∀ j u, cs[i * 4 + j]? = some u → w.cell? ⟨g, i * 4 + j, none⟩ = some u := fun j u hu => by
    rw [cell_of_row w g _ cur _ _ h2, ← hu, ← h6]
    have hlt := (List.getElem?_eq_some_iff.1 hu).1
    rw [← h6, List.length_take] at hlt
    rw [List.getElem?_take_of_lt (by omega)]
    simp
  exact ⟨kA, kc, hat 0 _ r0, hat 1 _ r1, hat 2 _ r2, hat 3 _ r3, hk⟩
theorem Told.form {w : World} {B : Nat} {v : Value} {ds : List SaysD} (h : Told w B v ds) : ∃ A c, v = .slice A ds.length c := by
  obtain ⟨cs, o3, t3⟩ := h
  exact kd_form o3
theorem str_list (x : Txt) : (ByteArray.mk x.toArray).toList = x := by rw [Lib.toList_data]
set_option maxRecDepth 100000 in
set_option maxHeartbeats 3200000 in
theorem trieRise_calls (lv : Value) (l : List WordD) (w : World) (hl : SlC 3 wordCell w w.heap.size lv l) :
    Calls Try.prog 7 #[lv] w fun e w' => e = .returned (.bool true) ∧ Below w.heap.size w w' := by
  obtain ⟨A3, c3, rfl⟩ := hl.form
  have HL := Lib.hid hl
  have HC := Lib.hid (fits6_calls _ l w hl)
  clear hl
  obtain ⟨ft, hft⟩ : ∃ ft, ft = fitB l := ⟨_, rfl⟩
  rw [← hft] at HC
  have HFT := Lib.hid hft
  clear hft
  go_enter Try.func7, Try.ntmps7
  go_wp2_with fail
  refine HC.out.mono ?_
  rintro e w1 ⟨rfl, b1⟩
  have HB1 := Lib.hid b1
  clear b1
  cases ft with
  | false =>
    go_wp2
    go_ret
    exact ⟨rfl, HB1.out⟩
  | true =>
    obtain ⟨hln, hfw⟩ := fitB_spec HFT.out.symm
    have HR := Lib.hid (trieRun_calls _ l w1 ((HL.out.below HB1.out).mono HB1.out.size) (by omega) hfw)
    clear hfw
    go_wp2_with fail
    refine HR.out.mono ?_
    rintro e w2 ⟨v2, rfl, t2, b2⟩
    have hrl := runW_len l new0
    obtain ⟨A2, c2, e2⟩ := t2.form
    rw [hrl] at e2
    have HT := Lib.hid t2
    have HB2 := Lib.hid (HB1.out.trans (b2.mono HB1.out.size))
    subst e2
    clear t2 b2 hrl
    go_wp2_with fail
    go_loopw [4, 5] (fun i _ wr => ∃ k : Nat, k ≤ l.length ∧ i = .int .i64 (k : Nat) ∧ Hid (∃ n, wr = w2.drewN n)) (fun i _ _ => l.length - (intOf i).toNat)
    case atStart => exact ⟨0, Nat.zero_le _, rfl, ⟨0, rfl⟩⟩
    case round =>
      obtain ⟨k, hk, rfl, HD⟩ := hrel
      by_cases hlt : k < l.length
      · have hrl := runW_len l new0
        obtain ⟨g, cap, e3, g1, g2, g3, g4⟩ := HT.out.open (by omega)
        rw [hrl] at e3
        cases e3
        obtain ⟨d, hd⟩ : ∃ d, (runW new0 l)[k]? = some d := ⟨_, List.getElem?_eq_getElem (by omega)⟩
        obtain ⟨kA, kc, q0, q1, q2, q3, hk3⟩ := g4 k d hd
        have hup := run_up l (s := new0) trivial d (List.mem_of_getElem? hd)
        have HU := Lib.hid (And.intro hup hk3)
        have q3' : ∀ n, (w2.drewN n).cell? ⟨g, k * 4 + 3, none⟩ = some (.slice kA d.keys.length kc) := fun _ => q3
        have Q3 := Lib.hid q3'
        rw [hrl] at g3
        clear hup hk3 q0 q1 q2 q3 q3' hd g4 g1 hrl
        obtain ⟨n0, hn0⟩ := HD.out
        subst hn0
        go_wp2_with fail
        go_loopw [5] (fun i wr => ∃ j : Nat, 1 ≤ j ∧ i = .int .i64 (j : Nat) ∧ (j ≤ d.keys.length ∨ j = 1) ∧ Hid (∃ n, wr = w2.drewN n)) (fun i _ => d.keys.length - (intOf i).toNat)
        case atStart => exact ⟨1, Nat.le_refl _, rfl, .inr rfl, ⟨_, rfl⟩⟩
        case round =>
          obtain ⟨j, hj1, rfl, hj, HD2⟩ := hrel
          obtain ⟨n1, hn1⟩ := HD2.out
          subst hn1
          have q3 := Q3.out n1
          obtain ⟨W, hW⟩ : ∃ W, W = w2.drewN n1 := ⟨_, rfl⟩
          have HW := Lib.hid hW
          rw [← hW] at q3
          rw [← hW]
          by_cases hjl : j < d.keys.length
          · obtain ⟨a, ha⟩ : ∃ a, d.keys[j - 1]? = some a := ⟨_, List.getElem?_eq_getElem (by omega)⟩
            obtain ⟨b, hb⟩ : ∃ b, d.keys[j]? = some b := ⟨_, List.getElem?_eq_getElem hjl⟩
            obtain ⟨gb, go, rfl, z1, z2, z3, za⟩ := HU.out.2.at_ ha
            obtain ⟨gb', go', ez, _, _, _, zb⟩ := HU.out.2.at_ hb
            cases ez
            have za' : W.cell? ⟨gb, go + (j - 1), none⟩ = some (str a) := by rw [hW]; exact za
            have zb' : W.cell? ⟨gb, go + j, none⟩ = some (str b) := by rw [hW]; exact zb
            have hab : less a b = true := by
              obtain ⟨i1, e1⟩ := List.getElem?_eq_some_iff.1 ha
              obtain ⟨i2, e2⟩ := List.getElem?_eq_some_iff.1 hb
              have := List.pairwise_iff_getElem.1 HU.out.1 (j - 1) j i1 i2 (by omega)
              rwa [e1, e2] at this
            have hlab : Op.bytesLess a b = true := hab
            have ew : IntKind.i64.wrap ((j : Int) - 1) = ((j - 1 : Nat) : Int) := by rw [show ((j - 1 : Nat) : Int) = (j : Int) - 1 by omega]; exact IntWalk.i64_in _ (by omega)
            have ew2 : IntKind.i64.wrap ((j : Int) + 1) = (j : Int) + 1 := IntWalk.i64_in _ (by omega)
            have en : ((j : Int) - 1) = ((j - 1 : Nat) : Int) := by omega
            have eb1 : ((j - 1 : Nat) : Int) < (d.keys.length : Int) := by omega
            have eb0 : (0 : Int) ≤ ((j - 1 : Nat) : Int) := by omega
            clear ha hb za zb hab hW
            go_wp2_with fail
            go_quiet (fail)
            go_wp2_with fail
            exact ⟨⟨j + 1, by omega, by go_num, .inl (by omega), ⟨_, by rw [HW.out]; exact World.drewN_drewN _ _ _⟩⟩, by simp [intOf]; omega⟩
          · clear hW
            go_wp2_with fail
            exact ⟨⟨k + 1, by omega, by go_num, ⟨_, HW.out⟩⟩, by simp [intOf]; omega⟩
      · have : k = l.length := by omega
        subst this
        obtain ⟨n0, hn0⟩ := HD.out
        subst hn0
        go_wp2_with fail
        go_ret
        exact ⟨rfl, HB2.out.trans (Below.drewN _ _)⟩
end Go.Proofs.Ytlpcddmcddenfaa.Kp
