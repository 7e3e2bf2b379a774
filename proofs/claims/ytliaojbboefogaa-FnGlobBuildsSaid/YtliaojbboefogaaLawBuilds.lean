/- FnGlobBuilds: a pattern with one of its choices in the place of all is the prefix and a slash, and then its pieces; without a prefix, or with a point, the pieces alone; of any texts and any five places (the statement asks nothing of texts longer than 2^31 - 1, nor of places that do not rise within the pattern). -/
import Derived.Test.YtliaojbboefogaaRows
import Derived.Test.YtliaojbboefogaaBuild1
import Derived.Test.YtliaojbboefogaaOpen
namespace Go.Proofs.Ytliaojbboefogaa.fnGlobBuilds
open Go.ChangeShapes Go.WideShapes Go.ChangeAt Go.RowKit
theorem laidOut : laidOutB Try.prog = true := by kernel_rfl
theorem own : ownKnob Try.prog.godebug = none := by kernel_rfl
theorem okWide_array {P : Program} {w : World} {r : Reach} {base n : Nat} {t e : TypeId} {v : Value} (ht : P.underlying t = some (.array n e)) (h : Value.okWide P w r base t v) : ∃ cs, v = .agg cs ∧ cs.size = P.cellsOf t := by
  unfold Value.okWide at h
  rw [ht] at h
  obtain ⟨cs, e, hs, _⟩ := h
  exact ⟨cs, e, hs⟩
theorem open_five {H : Type} {enc : TypeId × Value → H} {w : World} {cs : Array Value} {d : DataW H} {ps : List MemPlace}
    (h : DataW.Trod enc Try.prog w 0 (fun _ => true) true 22 (.agg cs) d ps) : ∃ a0 a1 a2 a3 a4 : Int, cs = #[.int .i64 a0, .int .i64 a1, .int .i64 a2, .int .i64 a3, .int .i64 a4] := by
  obtain ⟨fuel, hf⟩ := h
  obtain ⟨xs, m, _, _, hl, hxl, hx⟩ := DataW.trod_array Try.underlying22 hf
  have c5 : Try.prog.cellsOf 22 = 5 := by kernel_rfl
  have c1 : Try.prog.cellsOf 3 = 1 := by kernel_rfl
  rw [c5] at hl
  rw [c1] at hx
  have hall : ∀ i, i < 5 → ∃ k : Int, (cs.toList.drop (i * 1)).take 1 = [.int .i64 k] := by
    intro i hi
    have h1 := hx i hi
    rw [List.getElem?_eq_getElem (by omega)] at h1
    obtain ⟨k, e, _⟩ := DataW.trod_int Try.underlying3 h1
    exact ⟨k, e⟩
  obtain ⟨a0, e0⟩ := hall 0 (by omega)
  obtain ⟨a1, e1⟩ := hall 1 (by omega)
  obtain ⟨a2, e2⟩ := hall 2 (by omega)
  obtain ⟨a3, e3⟩ := hall 3 (by omega)
  obtain ⟨a4, e4⟩ := hall 4 (by omega)
  have hl' : cs.toList.length = 5 := hl
  refine ⟨a0, a1, a2, a3, a4, ?_⟩
  apply Array.ext'
  rcases hcs : cs.toList with _ | ⟨x, _ | ⟨y, _ | ⟨z, _ | ⟨u, _ | ⟨v, r⟩⟩⟩⟩⟩ <;> rw [hcs] at hl' e0 e1 e2 e3 e4 <;> simp at hl'
  simp at e0 e1 e2 e3 e4
  rw [hl', e0, e1, e2, e3, e4]
set_option maxRecDepth 100000 in
theorem lifted (os : Os) (started : os.Started) (H : Type) (enc : TypeId × Value → H) :
    ReturnsInHanded {} Try.checked os 3 .any (Rows.fnGlobBuildsSpec.pre6 enc Try.prog Try.f3 Rows.fnGlobBuildsRow.domain false) (Rows.fnGlobBuildsSpec.post enc Try.prog Try.f3 false true false false) := by
  refine returnsInHanded_of_change_sized (C := Try.checked) own started (by kernel_rfl) Try.func3
    (ChangeSpec.witness6 (enc := enc) (C := Try.checked) false ⟨#[], #[.string ByteArray.empty, .string ByteArray.empty, .agg #[.int .i64 0, .int .i64 0, .int .i64 0, .int .i64 0, .int .i64 0]], []⟩ 8 (by kernel_rfl) (by kernel_rfl) (by kernel_rfl) (by kernel_rfl)) ?_
  intro W base args ds gs before hval0 hW hcnd hsz0 _
  have hval : ∀ (j : Nat) t v, Try.f3.params[j]? = some t → args[j]? = some v → Value.okWide Try.prog W .any base t v := hval0
  have hW' := hW
  obtain ⟨p, q, hA0, hV, rfl, hfz, hnd⟩ := hW
  have hA : DataW.TrodAll enc Try.prog W 0 (fun _ => true) true Try.f3.params.toList args.toList ds p := hA0
  rw [Try.params3] at hA hval
  obtain ⟨v0, vs0, d0, ds0, p0, q0, hargs, rfl, rfl, h0, r0⟩ := trodAll_cons hA
  obtain ⟨v1, vs1, d1, ds1, p1, q1, hargs1, rfl, rfl, h1, r1⟩ := trodAll_cons r0
  obtain ⟨v2, vs2, d2, ds2, p2, q2, hargs2, rfl, rfl, h2, r2⟩ := trodAll_cons r1
  obtain ⟨rfl, rfl, rfl⟩ := trodAll_nil r2
  subst hargs2
  subst hargs1
  obtain rfl : args = #[v0, v1, v2] := by cases args; simp_all
  obtain ⟨rfl, rfl⟩ := trodVars_none hV
  obtain ⟨s0, rfl⟩ := okWide_string Try.underlying9 (hval 0 9 v0 rfl rfl)
  obtain ⟨s1, rfl⟩ := okWide_string Try.underlying9 (hval 1 9 v1 rfl rfl)
  obtain ⟨cs, rfl, _⟩ := okWide_array Try.underlying22 (hval 2 22 v2 rfl rfl)
  obtain ⟨a0, a1, a2, a3, a4, rfl⟩ := open_five h2
  refine (builds_calls s0 s1 a0 a1 a2 a3 a4 W).mono fun e W' ⟨he, bel⟩ => ?_
  subst he
  have b0 := Below.trod laidOut (by kernel_rfl) (of_decide_eq_true (by kernel_rfl)) h0 bel (fun x hx => by obtain ⟨fu, hfu⟩ := h0; exact DataW.trod_lt fu _ _ _ hfu x hx)
  have b1 := Below.trod laidOut (by kernel_rfl) (of_decide_eq_true (by kernel_rfl)) h1 bel (fun x hx => by obtain ⟨fu, hfu⟩ := h1; exact DataW.trod_lt fu _ _ _ hfu x hx)
  have b2 := Below.trod laidOut (by kernel_rfl) (of_decide_eq_true (by kernel_rfl)) h2 bel (fun x hx => by obtain ⟨fu, hfu⟩ := h2; exact DataW.trod_lt fu _ _ _ hfu x hx)
  exact ⟨_, rfl, _, _, _, [], _, [], hW', trodAll_mk1 (shut_bool Try.underlying4 _), (trodAll_cons_mk b0 (trodAll_cons_mk b1 (trodAll_cons_mk b2 trodAll_mk0))), rfl, bel.frame _, fun h => by cases h⟩
theorem over : Rows.fnGlobBuildsRow.holds Try.pinned (OpenSpec.ofChange Rows.fnGlobBuildsSpec) :=
  OpenClaim.holds_of_wide 3 Try.f3 rfl rfl rfl rfl rfl rfl rfl ⟨rfl, rfl, rfl, rfl, rfl⟩ rfl rfl rfl rfl rfl (by kernel_rfl) Try.func3 (by kernel_rfl)
    (of_decide_eq_true (by kernel_rfl)) (by unfold Func.isWrapper; first | (rw [if_pos (by decide +kernel)]; kernel_rfl) | (rw [if_neg (by decide +kernel)]; exact ⟨rfl, rfl⟩))
    (fun os started H enc _ => lifted os started H enc)
theorem proved : Rows.FnGlobBuildsSaid := over
end Go.Proofs.Ytliaojbboefogaa.fnGlobBuilds
namespace Go.Proofs.Ytliaojbboefogaa
/-- The row, under a short name, for the claim. -/
theorem fnGlobBuilds_holds : Rows.FnGlobBuildsSaid := fnGlobBuilds.proved
#print axioms fnGlobBuilds_holds
end Go.Proofs.Ytliaojbboefogaa
