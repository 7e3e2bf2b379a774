/- FnQueueStack: the row. -/
import Derived.Test.YtinajjceojfflaaRows
import Derived.Test.YtinajjceojfflaaQStks
import Derived.Test.YtinajjceojfflaaOpen
namespace Go.Proofs.Ytinajjceojfflaa.fnQueueStack
open Go.ChangeShapes Go.WideShapes Go.ChangeAt Go.RowKit
theorem laidOut : laidOutB Try.prog = true := by kernel_rfl
theorem own : ownKnob Try.prog.godebug = none := by kernel_rfl
set_option maxRecDepth 100000 in
theorem lifted (os : Os) (started : os.Started) (H : Type) (enc : TypeId × Value → H) :
    ReturnsInHanded {} Try.checked os 8 .any (Rows.fnQueueStackSpec.pre6 enc Try.prog Try.f8 Rows.fnQueueStackRow.domain false) (Rows.fnQueueStackSpec.post enc Try.prog Try.f8 false true false false) := by
  refine returnsInHanded_of_change_sized (C := Try.checked) own started (by kernel_rfl) Try.func8
    (ChangeSpec.witness6 (enc := enc) (C := Try.checked) false ⟨#[], #[.slice none 0 0], []⟩ 8 (by kernel_rfl) (by kernel_rfl) (by kernel_rfl) (by kernel_rfl)) ?_
  intro W base args ds gs before hval0 hW hcnd hsz0 _
  have hsz : (DataW.weightsEach Try.prog (Try.f8.params.toList ++ Rows.fnQueueStackSpec.plain.varTypes Try.prog) (ds ++ gs)).all (· ≤ reachBytes) = true := hsz0
  have hval : ∀ (j : Nat) t v, Try.f8.params[j]? = some t → args[j]? = some v → Value.okWide Try.prog W .any base t v := hval0
  have hW' := hW
  obtain ⟨p, q, hA0, hV, rfl, hfz, hnd⟩ := hW
  have hA : DataW.TrodAll enc Try.prog W 0 (fun _ => true) true Try.f8.params.toList args.toList ds p := hA0
  rw [Try.params8] at hA hval hsz
  obtain ⟨v0, vs0, d0, ds0, p0, q0, hargs0, rfl, rfl, h0, r0⟩ := trodAll_cons hA
  obtain ⟨rfl, rfl, rfl⟩ := trodAll_nil r0
  obtain rfl : args = #[v0] := by cases args; simp_all
  obtain ⟨rfl, rfl⟩ := trodVars_none hV
  obtain ⟨A0, n0, c0, rfl⟩ := okWide_slice Try.underlying22 (hval 0 22 v0 rfl rfl)
  obtain ⟨ks, hk⟩ := open_SlR (by kernel_rfl) Try.underlying22 Try.underlying3 h0 (fun ⟨el, sp, e⟩ => by
    subst e
    have z := sized_slice hsz (j := 0) (t := 22) rfl rfl Try.underlying22
    rw [show Try.prog.bytesOf 3 = 8 by kernel_rfl] at z
    have : reachBytes < 2 ^ 47 := reachBytes_lt
    simp only [slotsOf]; omega)
  refine (queueStack_calls _ ks W hk.toI).mono fun e W' ⟨he, bel⟩ => ?_
  subst he
  have b0 := Below.trod laidOut (by kernel_rfl) (of_decide_eq_true (by kernel_rfl)) h0 bel (fun x hx => by obtain ⟨fu, hfu⟩ := h0; exact DataW.trod_lt fu _ _ _ hfu x hx)
  exact ⟨_, rfl, _, _, _, [], _, [], hW', trodAll_mk1 (shut_bool Try.underlying4 _), (trodAll_cons_mk b0 trodAll_mk0), rfl, bel.frame _, fun h => by cases h⟩
theorem over : Rows.fnQueueStackRow.holds Try.pinned (OpenSpec.ofChange Rows.fnQueueStackSpec) :=
  OpenClaim.holds_of_wide 8 Try.f8 rfl rfl rfl rfl rfl rfl rfl ⟨rfl, rfl, rfl, rfl, rfl⟩ rfl rfl rfl rfl rfl (by kernel_rfl) Try.func8 (by kernel_rfl)
    (of_decide_eq_true (by kernel_rfl)) (by unfold Func.isWrapper; first | (rw [if_pos (by decide +kernel)]; kernel_rfl) | (rw [if_neg (by decide +kernel)]; exact ⟨rfl, rfl⟩))
    (fun os started H enc _ => lifted os started H enc)
theorem proved : Rows.FnQueueStackSaid := over
end Go.Proofs.Ytinajjceojfflaa.fnQueueStack
namespace Go.Proofs.Ytinajjceojfflaa
/-- The row, under a short name, for the claim. -/
theorem fnQueueStack_holds : Rows.FnQueueStackSaid := fnQueueStack.proved
#print axioms fnQueueStack_holds
end Go.Proofs.Ytinajjceojfflaa
