/- laws.FnBtreeRuns. -/
import Derived.Test.YtjbelfbfhcmgeaaBtL
import Derived.Test.YtjbelfbfhcmgeaaBtD2
import Derived.Test.YtjbelfbfhcmgeaaTrW
namespace Go.Proofs.Ytjbelfbfhcmgeaa
open Go.RowKit Om Bt Kp

set_option maxRecDepth 100000 in
set_option maxHeartbeats 1600000 in
theorem btreeRuns_calls (xs : List Int) (tv av : Value) (l : List ActD) (w : World) (ht : SlR w w.heap.size tv (xs.map i64v)) (ha : SlA w w.heap.size av l) :
    Calls Try.prog 3 #[tv, av] w fun e w' => e = .returned (.bool true) ∧ Below w.heap.size w w' := by
  obtain ⟨A, c, rfl⟩ := ht.form
  rw [List.length_map] at *
  obtain ⟨A1, c1, rfl⟩ := ha.form
  have HT := Lib.hid ht
  have HA := Lib.hid ha
  clear ht ha
  by_cases b1 : (xs.length : Int) ≤ 2147483647
  case neg =>
    go_enter Try.func3, Try.ntmps3
    go_wp2
    go_ret
    exact ⟨rfl, Below.refl _ _⟩
  by_cases b2 : (l.length : Int) ≤ 2147483647
  case neg =>
    go_enter Try.func3, Try.ntmps3
    go_wp2
    go_ret
    exact ⟨rfl, Below.refl _ _⟩
  have hl : l.length ≤ 5000000000 := by omega
  have H1 := Lib.hid (btreeRun_calls xs _ _ l w HT.out HA.out (by omega))
  have HL := Lib.hid hl
  clear hl
  go_enter Try.func3, Try.ntmps3
  go_wp2_with fail
  refine H1.out.mono ?_
  rintro e w1 ⟨v1, rfl, g1, hb1⟩
  have G1 := Lib.hid (And.intro g1 hb1)
  clear g1 hb1 H1
  go_wp2_with fail
  refine (trees_calls xs _ _ l w1 ((HT.out.below G1.out.2).mono G1.out.2.size) ((HA.out.below G1.out.2).mono G1.out.2.size) HL.out).mono ?_
  rintro e w2 ⟨v2, cs, rfl, g2, g3, hb2⟩
  have G2 := Lib.hid (And.intro (TS.tw (by rw [runM_len]) g2 g3) hb2)
  clear g2 g3 hb2
  have G3 := Lib.hid (show Below w.heap.size w w2 from G1.out.2.trans (G2.out.2.mono G1.out.2.size))
  go_wp2_with fail
  refine (treeRuns_calls xs _ _ _ _ l (runB (rankOf xs) newB l).2 (runM (rankOf xs) [] l) w2 ((HT.out.below G3.out).mono G3.out.size) ((HA.out.below G3.out).mono G3.out.size) ((Kp.Tolds.tw G1.out.1).below G2.out.2) G2.out.1 (runB_len _ _ _) (runM_len _ _ _) (by have := HL.out; omega) (fun i a d e h1 h2 h3 h4 => runB_same l (BM.new _) i a d e h1 h2 h3 h4)).mono ?_
  rintro e w3 ⟨rfl, hb3⟩
  go_wp2_with fail
  go_ret
  exact ⟨rfl, G3.out.trans (hb3.mono G3.out.size)⟩
end Go.Proofs.Ytjbelfbfhcmgeaa
