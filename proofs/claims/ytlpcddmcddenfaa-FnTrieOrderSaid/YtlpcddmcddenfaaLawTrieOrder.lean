/- FnTrieOrder: the row. -/
import Derived.Test.YtlpcddmcddenfaaRows
import Derived.Test.YtlpcddmcddenfaaTriOw
import Derived.Test.YtlpcddmcddenfaaOpenStr
namespace Go.Proofs.Ytlpcddmcddenfaa.fnTrieOrder
open Go.ChangeShapes Go.WideShapes Go.ChangeAt Go.RowKit
theorem laidOut : laidOutB Try.prog = true := by kernel_rfl
theorem own : ownKnob Try.prog.godebug = none := by kernel_rfl
set_option maxRecDepth 100000 in
theorem lifted (os : Os) (started : os.Started) (H : Type) (enc : TypeId × Value → H) :
    ReturnsInHanded {} Try.checked os 5 .any (Rows.fnTrieOrderSpec.pre6 enc Try.prog Try.f5 Rows.fnTrieOrderRow.domain false) (Rows.fnTrieOrderSpec.post enc Try.prog Try.f5 false true false false) := by
  refine returnsInHanded_of_change_sized (C := Try.checked) own started (by kernel_rfl) Try.func5
    (ChangeSpec.witness6 (enc := enc) (C := Try.checked) false ⟨#[], #[.slice none 0 0, .slice none 0 0, .string ⟨#[]⟩], []⟩ 8 (by kernel_rfl) (by kernel_rfl) (by kernel_rfl) (by kernel_rfl)) ?_
  intro W base args ds gs before hval0 hW hcnd hsz0 _
  have hsz : (DataW.weightsEach Try.prog (Try.f5.params.toList ++ Rows.fnTrieOrderSpec.plain.varTypes Try.prog) (ds ++ gs)).all (· ≤ reachBytes) = true := hsz0
  have hval : ∀ (j : Nat) t v, Try.f5.params[j]? = some t → args[j]? = some v → Value.okWide Try.prog W .any base t v := hval0
  have hW' := hW
  obtain ⟨p, q, hA0, hV, rfl, hfz, hnd⟩ := hW
  have hA : DataW.TrodAll enc Try.prog W 0 (fun _ => true) true Try.f5.params.toList args.toList ds p := hA0
  rw [Try.params5] at hA hval hsz
  obtain ⟨v0, vs0, d0, ds0, p0, q0, hargs0, rfl, rfl, h0, r0⟩ := trodAll_cons hA
  obtain ⟨v1, vs1, d1, ds1, p1, q1, hargs1, rfl, rfl, h1, r1⟩ := trodAll_cons r0
  obtain ⟨v2, vs2, d2, ds2, p2, q2, hargs2, rfl, rfl, h2, r2⟩ := trodAll_cons r1
  obtain ⟨rfl, rfl, rfl⟩ := trodAll_nil r2
  subst hargs2
  subst hargs1
  obtain rfl : args = #[v0, v1, v2] := by cases args; simp_all
  obtain ⟨rfl, rfl⟩ := trodVars_none hV
  obtain ⟨A0, n0, c0, rfl⟩ := okWide_slice Try.underlying29 (hval 0 29 v0 rfl rfl)
  obtain ⟨ks, hk⟩ := open_SlU h0
  obtain ⟨A1, n1, c1, rfl⟩ := okWide_slice Try.underlying37 (hval 1 37 v1 rfl rfl)
  obtain ⟨ts, ho⟩ := open_SlR (by kernel_rfl) Try.underlying37 Try.underlying3 h1 (fun ⟨el, sp, e⟩ => by
    subst e
    have z := sized_slice hsz (j := 1) (t := 37) rfl rfl Try.underlying37
    rw [show Try.prog.bytesOf 3 = 8 by kernel_rfl] at z
    have : reachBytes < 2 ^ 47 := reachBytes_lt
    simp only [slotsOf]; omega)
  obtain ⟨t0, rfl⟩ := okWide_string Try.underlying9 (hval 2 9 v2 rfl rfl)
  obtain ⟨t, ht⟩ : ∃ t : List UInt8, t0 = ⟨t.toArray⟩ := ⟨t0.data.toList, rfl⟩
  subst ht
  refine (Kp.trieOrder_calls _ _ ks ts t W hk (Kp.slR_toI ho)).mono fun e W' ⟨he, bel⟩ => ?_
  subst he
  have b0 := Below.trod laidOut (by kernel_rfl) (of_decide_eq_true (by kernel_rfl)) h0 bel (fun x hx => by obtain ⟨fu, hfu⟩ := h0; exact DataW.trod_lt fu _ _ _ hfu x hx)
  have b1 := Below.trod laidOut (by kernel_rfl) (of_decide_eq_true (by kernel_rfl)) h1 bel (fun x hx => by obtain ⟨fu, hfu⟩ := h1; exact DataW.trod_lt fu _ _ _ hfu x hx)
  have b2 := Below.trod laidOut (by kernel_rfl) (of_decide_eq_true (by kernel_rfl)) h2 bel (fun x hx => by obtain ⟨fu, hfu⟩ := h2; exact DataW.trod_lt fu _ _ _ hfu x hx)
  exact ⟨_, rfl, _, _, _, [], _, [], hW', trodAll_mk1 (shut_bool Try.underlying4 _), (trodAll_cons_mk b0 (trodAll_cons_mk b1 (trodAll_cons_mk b2 trodAll_mk0))), rfl, bel.frame _, fun h => by cases h⟩
theorem over : Rows.fnTrieOrderRow.holds Try.pinned (OpenSpec.ofChange Rows.fnTrieOrderSpec) :=
  OpenClaim.holds_of_wide 5 Try.f5 rfl rfl rfl rfl rfl rfl rfl ⟨rfl, rfl, rfl, rfl, rfl⟩ rfl rfl rfl rfl rfl (by kernel_rfl) Try.func5 (by kernel_rfl)
    (of_decide_eq_true (by kernel_rfl)) (by unfold Func.isWrapper; first | (rw [if_pos (by decide +kernel)]; kernel_rfl) | (rw [if_neg (by decide +kernel)]; exact ⟨rfl, rfl⟩))
    (fun os started H enc _ => lifted os started H enc)
theorem proved : Rows.FnTrieOrderSaid := over
end Go.Proofs.Ytlpcddmcddenfaa.fnTrieOrder
namespace Go.Proofs.Ytlpcddmcddenfaa
/-- The row, under a short name, for the claim. -/
theorem fnTrieOrder_holds : Rows.FnTrieOrderSaid := fnTrieOrder.proved
#print axioms fnTrieOrder_holds
end Go.Proofs.Ytlpcddmcddenfaa
