/- FnTrieBegin: the row. -/
import Derived.Test.YtlpcddmcddenfaaRows
import Derived.Test.YtlpcddmcddenfaaTriBw
import Derived.Test.YtlpcddmcddenfaaOpenStr
namespace Go.Proofs.Ytlpcddmcddenfaa.fnTrieBegin
open Go.ChangeShapes Go.WideShapes Go.ChangeAt Go.RowKit
theorem laidOut : laidOutB Try.prog = true := by kernel_rfl
theorem own : ownKnob Try.prog.godebug = none := by kernel_rfl
set_option maxRecDepth 100000 in
theorem lifted (os : Os) (started : os.Started) (H : Type) (enc : TypeId × Value → H) :
    ReturnsInHanded {} Try.checked os 3 .any (Rows.fnTrieBeginSpec.pre6 enc Try.prog Try.f3 Rows.fnTrieBeginRow.domain false) (Rows.fnTrieBeginSpec.post enc Try.prog Try.f3 false true false false) := by
  refine returnsInHanded_of_change_sized (C := Try.checked) own started (by kernel_rfl) Try.func3
    (ChangeSpec.witness6 (enc := enc) (C := Try.checked) false ⟨#[], #[.slice none 0 0, .int .i64 0], []⟩ 8 (by kernel_rfl) (by kernel_rfl) (by kernel_rfl) (by kernel_rfl)) ?_
  intro W base args ds gs before hval0 hW hcnd hsz0 _
  have hsz : (DataW.weightsEach Try.prog (Try.f3.params.toList ++ Rows.fnTrieBeginSpec.plain.varTypes Try.prog) (ds ++ gs)).all (· ≤ reachBytes) = true := hsz0
  have hval : ∀ (j : Nat) t v, Try.f3.params[j]? = some t → args[j]? = some v → Value.okWide Try.prog W .any base t v := hval0
  have hW' := hW
  obtain ⟨p, q, hA0, hV, rfl, hfz, hnd⟩ := hW
  have hA : DataW.TrodAll enc Try.prog W 0 (fun _ => true) true Try.f3.params.toList args.toList ds p := hA0
  rw [Try.params3] at hA hval hsz
  obtain ⟨v0, vs0, d0, ds0, p0, q0, hargs0, rfl, rfl, h0, r0⟩ := trodAll_cons hA
  obtain ⟨v1, vs1, d1, ds1, p1, q1, hargs1, rfl, rfl, h1, r1⟩ := trodAll_cons r0
  obtain ⟨rfl, rfl, rfl⟩ := trodAll_nil r1
  subst hargs1
  obtain rfl : args = #[v0, v1] := by cases args; simp_all
  obtain ⟨rfl, rfl⟩ := trodVars_none hV
  obtain ⟨A0, n0, c0, rfl⟩ := okWide_slice Try.underlying22 (hval 0 22 v0 rfl rfl)
  obtain ⟨l, hl⟩ := open_SlW h0
  obtain ⟨cut, rfl⟩ := okWide_int Try.underlying3 (hval 1 3 v1 rfl rfl)
  refine (Kp.trieBegin_calls _ l cut W hl).mono fun e W' ⟨he, bel⟩ => ?_
  subst he
  have b0 := Below.trod laidOut (by kernel_rfl) (of_decide_eq_true (by kernel_rfl)) h0 bel (fun x hx => by obtain ⟨fu, hfu⟩ := h0; exact DataW.trod_lt fu _ _ _ hfu x hx)
  have b1 := Below.trod laidOut (by kernel_rfl) (of_decide_eq_true (by kernel_rfl)) h1 bel (fun x hx => by obtain ⟨fu, hfu⟩ := h1; exact DataW.trod_lt fu _ _ _ hfu x hx)
  exact ⟨_, rfl, _, _, _, [], _, [], hW', trodAll_mk1 (shut_bool Try.underlying4 _), (trodAll_cons_mk b0 (trodAll_cons_mk b1 trodAll_mk0)), rfl, bel.frame _, fun h => by cases h⟩
theorem over : Rows.fnTrieBeginRow.holds Try.pinned (OpenSpec.ofChange Rows.fnTrieBeginSpec) :=
  OpenClaim.holds_of_wide 3 Try.f3 rfl rfl rfl rfl rfl rfl rfl ⟨rfl, rfl, rfl, rfl, rfl⟩ rfl rfl rfl rfl rfl (by kernel_rfl) Try.func3 (by kernel_rfl)
    (of_decide_eq_true (by kernel_rfl)) (by unfold Func.isWrapper; first | (rw [if_pos (by decide +kernel)]; kernel_rfl) | (rw [if_neg (by decide +kernel)]; exact ⟨rfl, rfl⟩))
    (fun os started H enc _ => lifted os started H enc)
theorem proved : Rows.FnTrieBeginSaid := over
end Go.Proofs.Ytlpcddmcddenfaa.fnTrieBegin
namespace Go.Proofs.Ytlpcddmcddenfaa
/-- The row, under a short name, for the claim. -/
theorem fnTrieBegin_holds : Rows.FnTrieBeginSaid := fnTrieBegin.proved
#print axioms fnTrieBegin_holds
end Go.Proofs.Ytlpcddmcddenfaa
