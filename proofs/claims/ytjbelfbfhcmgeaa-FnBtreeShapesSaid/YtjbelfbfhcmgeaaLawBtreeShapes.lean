/- FnBtreeShapes: the row. -/
import Derived.Test.YtjbelfbfhcmgeaaRows
import Derived.Test.YtjbelfbfhcmgeaaBsX
import Derived.Test.YtjbelfbfhcmgeaaOpen
namespace Go.Proofs.Ytjbelfbfhcmgeaa.fnBtreeShapes
open Go.ChangeShapes Go.WideShapes Go.ChangeAt Go.RowKit
theorem laidOut : laidOutB Try.prog = true := by kernel_rfl
theorem own : ownKnob Try.prog.godebug = none := by kernel_rfl
theorem three_cells {cs : List Value} {a b c : Value} (hl : cs.length = 3) (e0 : (cs.drop 0).take 1 = [a]) (e1 : (cs.drop 1).take 1 = [b]) (e2 : (cs.drop 2).take 1 = [c]) : cs = [a, b, c] := by
  rcases cs with _ | ⟨x, _ | ⟨y, _ | ⟨z, _ | ⟨u, r⟩⟩⟩⟩ <;> simp at hl
  simp at e0 e1 e2
  rw [e0, e1, e2]
theorem open_SlA {H : Type} {enc : TypeId × Value → H} {w : World} {A : Option Addr} {n c : Nat} {d : DataW H} {ps : List MemPlace}
    (h : DataW.Trod enc Try.prog w 0 (fun _ => true) true 23 (.slice A n c) d ps) : ∃ l : List ActD, SlA w w.heap.size (.slice A n c) l := by
  obtain ⟨l, h1, h2, h3, h4⟩ := open_rows (α := ActD) (fun a => [.int .i64 a.act, .int .i64 a.key, .int .i64 a.val]) (C := 3) (by kernel_rfl) (by decide) (fun _ => rfl) Try.underlying23 (fun n cs x hx => by
    obtain ⟨hl, hf⟩ := open_agg Try.underlying52 hx
    rw [show Try.prog.cellsOf 52 = 3 by kernel_rfl] at hl
    obtain ⟨_, _, f0⟩ := hf 0 _ rfl
    obtain ⟨_, _, f1⟩ := hf 1 _ rfl
    obtain ⟨_, _, f2⟩ := hf 2 _ rfl
    obtain ⟨k0, e0, _⟩ := DataW.trod_int Try.underlying3 f0
    obtain ⟨k1, e1, _⟩ := DataW.trod_int Try.underlying3 f1
    obtain ⟨k2, e2, _⟩ := DataW.trod_int Try.underlying3 f2
    have c1 : Try.prog.cellsOf 3 = 1 := by kernel_rfl
    change List.take (Try.prog.cellsOf 3) (List.drop 0 cs) = _ at e0
    change List.take (Try.prog.cellsOf 3) (List.drop 1 cs) = _ at e1
    change List.take (Try.prog.cellsOf 3) (List.drop 2 cs) = _ at e2
    rw [c1] at e0 e1 e2
    exact ⟨⟨k0, k1, k2⟩, three_cells hl e0 e1 e2⟩) h
  refine ⟨l, ⟨A, c, by rw [h1], ?_⟩⟩
  rcases h3 with rfl | ⟨b, off, e1, e2, e3, e4, e5⟩
  · exact .inl rfl
  · exact .inr ⟨b, off, e1, by rw [h1]; exact e2, e4, e4, fun i a hi => ⟨e5 i a hi 0 _ rfl, e5 i a hi 1 _ rfl, e5 i a hi 2 _ rfl⟩⟩
set_option maxRecDepth 100000 in
theorem lifted (os : Os) (started : os.Started) (H : Type) (enc : TypeId × Value → H) :
    ReturnsInHanded {} Try.checked os 4 .any (Rows.fnBtreeShapesSpec.pre6 enc Try.prog Try.f4 Rows.fnBtreeShapesRow.domain false) (Rows.fnBtreeShapesSpec.post enc Try.prog Try.f4 false true false false) := by
  refine returnsInHanded_of_change_sized (C := Try.checked) own started (by kernel_rfl) Try.func4
    (ChangeSpec.witness6 (enc := enc) (C := Try.checked) false ⟨#[], #[.slice none 0 0, .slice none 0 0], []⟩ 8 (by kernel_rfl) (by kernel_rfl) (by kernel_rfl) (by kernel_rfl)) ?_
  intro W base args ds gs before hval0 hW hcnd hsz0 _
  have hsz : (DataW.weightsEach Try.prog (Try.f4.params.toList ++ Rows.fnBtreeShapesSpec.plain.varTypes Try.prog) (ds ++ gs)).all (· ≤ reachBytes) = true := hsz0
  have hval : ∀ (j : Nat) t v, Try.f4.params[j]? = some t → args[j]? = some v → Value.okWide Try.prog W .any base t v := hval0
  have hW' := hW
  obtain ⟨p, q, hA0, hV, rfl, hfz, hnd⟩ := hW
  have hA : DataW.TrodAll enc Try.prog W 0 (fun _ => true) true Try.f4.params.toList args.toList ds p := hA0
  rw [Try.params4] at hA hval hsz
  obtain ⟨v0, vs0, d0, ds0, p0, q0, hargs0, rfl, rfl, h0, r0⟩ := trodAll_cons hA
  obtain ⟨v1, vs1, d1, ds1, p1, q1, hargs1, rfl, rfl, h1, r1⟩ := trodAll_cons r0
  obtain ⟨rfl, rfl, rfl⟩ := trodAll_nil r1
  subst hargs1
  obtain rfl : args = #[v0, v1] := by cases args; simp_all
  obtain ⟨rfl, rfl⟩ := trodVars_none hV
  obtain ⟨A0, n0, c0, rfl⟩ := okWide_slice Try.underlying22 (hval 0 22 v0 rfl rfl)
  obtain ⟨xs, ho⟩ := open_SlR (by kernel_rfl) Try.underlying22 Try.underlying3 h0 (fun ⟨el, sp, e⟩ => by
    subst e
    have z := sized_slice hsz (j := 0) (t := 22) rfl rfl Try.underlying22
    rw [show Try.prog.bytesOf 3 = 8 by kernel_rfl] at z
    have : reachBytes < 2 ^ 47 := reachBytes_lt
    simp only [slotsOf]; omega)
  obtain ⟨A1, n1, c1, rfl⟩ := okWide_slice Try.underlying23 (hval 1 23 v1 rfl rfl)
  obtain ⟨l, ha⟩ := open_SlA h1
  refine (Kp.btreeShapes_calls xs _ _ l W ho ha).mono fun e W' ⟨he, bel⟩ => ?_
  subst he
  have b0 := Below.trod laidOut (by kernel_rfl) (of_decide_eq_true (by kernel_rfl)) h0 bel (fun x hx => by obtain ⟨fu, hfu⟩ := h0; exact DataW.trod_lt fu _ _ _ hfu x hx)
  have b1 := Below.trod laidOut (by kernel_rfl) (of_decide_eq_true (by kernel_rfl)) h1 bel (fun x hx => by obtain ⟨fu, hfu⟩ := h1; exact DataW.trod_lt fu _ _ _ hfu x hx)
  exact ⟨_, rfl, _, _, _, [], _, [], hW', trodAll_mk1 (shut_bool Try.underlying4 _), (trodAll_cons_mk b0 (trodAll_cons_mk b1 trodAll_mk0)), rfl, bel.frame _, fun h => by cases h⟩
theorem over : Rows.fnBtreeShapesRow.holds Try.pinned (OpenSpec.ofChange Rows.fnBtreeShapesSpec) :=
  OpenClaim.holds_of_wide 4 Try.f4 rfl rfl rfl rfl rfl rfl rfl ⟨rfl, rfl, rfl, rfl, rfl⟩ rfl rfl rfl rfl rfl (by kernel_rfl) Try.func4 (by kernel_rfl)
    (of_decide_eq_true (by kernel_rfl)) (by unfold Func.isWrapper; first | (rw [if_pos (by decide +kernel)]; kernel_rfl) | (rw [if_neg (by decide +kernel)]; exact ⟨rfl, rfl⟩))
    (fun os started H enc _ => lifted os started H enc)
theorem proved : Rows.FnBtreeShapesSaid := over
end Go.Proofs.Ytjbelfbfhcmgeaa.fnBtreeShapes
namespace Go.Proofs.Ytjbelfbfhcmgeaa
/-- The row, under a short name, for the claim. -/
theorem fnBtreeShapes_holds : Rows.FnBtreeShapesSaid := fnBtreeShapes.proved
#print axioms fnBtreeShapes_holds
end Go.Proofs.Ytjbelfbfhcmgeaa
