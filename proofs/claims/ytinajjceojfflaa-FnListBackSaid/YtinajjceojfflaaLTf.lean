/- Line.Do, all cases joined. -/
import Derived.Test.YtinajjceojfflaaLTa
import Derived.Test.YtinajjceojfflaaLTb
import Derived.Test.YtinajjceojfflaaLTc
import Derived.Test.YtinajjceojfflaaLTd
import Derived.Test.YtinajjceojfflaaLTe
import Derived.Test.YtinajjceojfflaaLP
namespace Go.Proofs.Ytinajjceojfflaa.Kp
open Go.RowKit

theorem zi_in {s : LineD} (hlt : ∀ i ∈ s.row, i < s.vals.length) : ∀ x ∈ zi s.row, 0 ≤ x ∧ x < s.vals.length := by
  intro x hx
  obtain ⟨n, hn, rfl⟩ := zi_mem.1 hx
  have := hlt n hn
  omega
theorem zdo_calls (s : LineD) (vv rv : Value) (on act key val : Int) (w : World) (hv : NS w vv s.vals) (hr : NS w rv (zi s.row)) (hn : s.row.length ≤ 10000000000) (hn2 : s.vals.length ≤ 10000000000) (hlt : ∀ i ∈ s.row, i < s.vals.length) (hm : mayL s ⟨on, act, key, val⟩) :
    Calls Try.prog 45 #[.agg #[vv, rv], .agg #[.int .i64 on, .int .i64 act, .int .i64 key, .int .i64 val]] w (DoP w (doL s ⟨on, act, key, val⟩).vals (zi (doL s ⟨on, act, key, val⟩).row)) := by
  have hz := doZ_L s ⟨on, act, key, val⟩ hm
  have hn' : (zi s.row).length ≤ 10000000000 := by unfold zi; rw [List.length_map]; exact hn
  have hin := zi_in hlt
  have e1 : (doL s ⟨on, act, key, val⟩).vals = (doZ s.vals (zi s.row) ⟨on, act, key, val⟩).1 := by rw [hz]
  have e2 : zi (doL s ⟨on, act, key, val⟩).row = (doZ s.vals (zi s.row) ⟨on, act, key, val⟩).2 := by rw [hz]
  rw [e1, e2]
  have hmem : (act = 2 ∨ act = 7 ∨ act = 8) → val ∈ zi s.row := by
    intro e
    unfold mayL at hm
    rw [if_pos e] at hm
    exact zi_mem.2 hm
  by_cases h0 : act = 0
  · subst h0; exact zdo0_calls s.vals (zi s.row) vv rv on key val w hv hr hn' hn2
  by_cases h1 : act = 1
  · subst h1; exact zdo1_calls s.vals (zi s.row) vv rv on key val w hv hr hn' hn2
  by_cases h2 : act = 2
  · subst h2; exact zdo2_calls s.vals (zi s.row) vv rv on key val w hv hr hn' hn2 (hmem (by simp))
  by_cases h3 : act = 3
  · subst h3; exact zdo3_calls s.vals (zi s.row) vv rv on key val w hv hr hn' hn2
  by_cases h4 : act = 4
  · subst h4; exact zdo4_calls s.vals (zi s.row) vv rv on key val w hv hr hn' hn2
  by_cases h5 : act = 5
  · subst h5; exact zdo5_calls s.vals (zi s.row) vv rv on key val w hv hr hn' hn2 hin
  by_cases h6 : act = 6
  · subst h6; exact zdo6_calls s.vals (zi s.row) vv rv on key val w hv hr hn' hn2 hin
  by_cases h7 : act = 7
  · subst h7; exact zdo7_calls s.vals (zi s.row) vv rv on key val w hv hr hn' hn2 (hmem (by simp)) hin
  by_cases h8 : act = 8
  · subst h8; exact zdo8_calls s.vals (zi s.row) vv rv on key val w hv hr hn' hn2 (hmem (by simp)) hin
  by_cases h9 : act = 9
  · subst h9; exact zdo9_calls s.vals (zi s.row) vv rv on key val w hv hr hn' hn2
  have e : doZ s.vals (zi s.row) ⟨on, act, key, val⟩ = (s.vals, zi s.row) := by
    unfold doZ
    rw [if_neg h0, if_neg h1, if_neg h2, if_neg h3, if_neg h4, if_neg h9]
  rw [e]
  exact zdoE_calls s.vals (zi s.row) vv rv on key val act w hv hr hn' hn2 (by simpa using h0) (by simpa using h1) (by simpa using h2) (by simpa using h3) (by simpa using h4) (by simpa using h5) (by simpa using h6) (by simpa using h7) (by simpa using h8) (by simpa using h9)
end Go.Proofs.Ytinajjceojfflaa.Kp
