/- spec.Longest, laws.wordSame's rows. -/
import Derived.Test.YtlpcddmcddenfaaTriB3
import Derived.Test.YtlpcddmcddenfaaTriK1
namespace Go.Proofs.Ytlpcddmcddenfaa.Kp
open Go.RowKit Tri

set_option maxRecDepth 100000 in
set_option maxHeartbeats 1600000 in
theorem slong_calls (lv : Value) (l : List Txt) (h : Txt) (w : World) (hl : NX 9 str w lv l) (hln : l.length ≤ 4294967296) (hf : ∀ x ∈ l, x.length ≤ 2147483647) (hh : h.length ≤ 2147483647) :
    Calls Try.prog 36 #[lv, str h] w fun e w' => ∃ (x : Txt) (b : Value), e = .returned (.tuple #[str x, b]) ∧ (b = .bool false ∨ b = .bool true) ∧ Below w.heap.size w w' := by
  obtain ⟨A3, c3, rfl⟩ := hl.form
  have HL := Lib.hid hl
  have HF := Lib.hid hf
  clear hl hf
  go_enter Try.func36, Try.ntmps36
  go_wp2_with fail
  go_loopw [6, 7, 8] (fun q b i wr => ∃ (k : Nat) (x : Txt) (bb : Bool), k ≤ l.length ∧ i = .int .i64 (k : Nat) ∧ q = str x ∧ b = .bool bb ∧ x.length ≤ 2147483647 ∧ Hid (wr = w)) (fun _ _ i _ => l.length - (intOf i).toNat)
  case atStart => exact ⟨0, [], false, Nat.zero_le _, rfl, rfl, rfl, by simp, Lib.hid rfl⟩
  case round =>
    obtain ⟨k, y, bb, hk, rfl, rfl, rfl, hy, HR⟩ := hrel
    have hwr := HR.out
    subst hwr
    clear HR
    have sy := size_str y
    by_cases hlt : k < l.length
    · obtain ⟨x, hx⟩ : ∃ x, l[k]? = some x := ⟨_, List.getElem?_eq_getElem hlt⟩
      obtain ⟨b, off, rfl, l1, l2, l3, lx⟩ := HL.out.at_ hx
      have hxl := HF.out x (List.mem_of_getElem? hx)
      have HB := Lib.hid (begins_calls h x wr (by omega) (by omega))
      have sx := size_str x
      obtain ⟨p, hp⟩ : ∃ p, p = x.isPrefixOf h := ⟨_, rfl⟩
      rw [← hp] at HB
      have hk1 : (k : Int) < (l.length : Int) := by omega
      obtain ⟨g, hg⟩ : ∃ g, g = decide ((y.length : Int) < (x.length : Int)) := ⟨_, rfl⟩
      clear hx hp
      go_wp2_with fail
      refine HB.out.mono ?_
      rintro e w1 ⟨rfl, rfl⟩
      cases p with
      | false =>
        go_wp2_with fail
        exact ⟨⟨k + 1, y, bb, by omega, by go_num, rfl, rfl, hy, Lib.hid trivial⟩, by simp [intOf]; omega⟩
      | true =>
        cases bb with
        | false =>
          go_wp2_with fail
          exact ⟨⟨k + 1, x, true, by omega, by go_num, rfl, rfl, hxl, Lib.hid trivial⟩, by simp [intOf]; omega⟩
        | true =>
          cases g with
          | true =>
            have hg1 : (y.length : Int) < (x.length : Int) := by simpa using hg.symm
            clear hg
            go_wp2_with fail
            exact ⟨⟨k + 1, x, true, by omega, by go_num, rfl, rfl, hxl, Lib.hid trivial⟩, by simp [intOf]; omega⟩
          | false =>
            have hg1 : ¬ (y.length : Int) < (x.length : Int) := by simpa using hg.symm
            clear hg
            go_wp2_with fail
            exact ⟨⟨k + 1, y, true, by omega, by go_num, rfl, rfl, hy, Lib.hid trivial⟩, by simp [intOf]; omega⟩
    · have hk1 : ¬ (k : Int) < (l.length : Int) := by omega
      go_wp2_with fail
      go_ret2
      exact ⟨y, _, rfl, by cases bb <;> simp, Below.refl _ _⟩
end Go.Proofs.Ytlpcddmcddenfaa.Kp
