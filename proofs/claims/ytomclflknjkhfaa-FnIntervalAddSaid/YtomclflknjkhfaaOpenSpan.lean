/- an argument that is a span, opened. -/
import Derived.Test.YtomclflknjkhfaaOpenRng
namespace Go.Proofs.Ytomclflknjkhfaa
open ItP Go.ChangeShapes Go.WideShapes Go.ChangeAt Go.RowKit Go.Deep
theorem three_cells {cs : List Value} {a b c : Value} (hl : cs.length = 3) (e0 : (cs.drop 0).take 1 = [a]) (e1 : (cs.drop 1).take 1 = [b]) (e2 : (cs.drop 2).take 1 = [c]) : cs = [a, b, c] := by
  rcases cs with _ | ⟨x, _ | ⟨y, _ | ⟨z, _ | ⟨u, r⟩⟩⟩⟩ <;> simp at hl
  simp at e0 e1 e2
  rw [e0, e1, e2]
theorem open_span {H : Type} {enc : TypeId × Value → H} {w : World} {cs : Array Value} {d : DataW H} {ps : List MemPlace}
    (h : DataW.Trod enc Try.prog w 0 (fun _ => true) true 46 (.agg cs) d ps) : ∃ lo hi v : Int, cs = #[.int .i64 lo, .int .i64 hi, .int .i64 v] := by
  obtain ⟨fu, hfu⟩ := h
  obtain ⟨hl, hf⟩ := open_agg Try.underlying46 hfu
  rw [show Try.prog.cellsOf 46 = 3 by kernel_rfl] at hl
  obtain ⟨_, _, f0⟩ := hf 0 _ rfl
  obtain ⟨_, _, f1⟩ := hf 1 _ rfl
  obtain ⟨_, _, f2⟩ := hf 2 _ rfl
  obtain ⟨k0, e0, _⟩ := DataW.trod_int Try.underlying3 f0
  obtain ⟨k1, e1, _⟩ := DataW.trod_int Try.underlying3 f1
  obtain ⟨k2, e2, _⟩ := DataW.trod_int Try.underlying3 f2
  have c1 : Try.prog.cellsOf 3 = 1 := by kernel_rfl
  change List.take (Try.prog.cellsOf 3) (List.drop 0 cs.toList) = _ at e0
  change List.take (Try.prog.cellsOf 3) (List.drop 1 cs.toList) = _ at e1
  change List.take (Try.prog.cellsOf 3) (List.drop 2 cs.toList) = _ at e2
  rw [c1] at e0 e1 e2
  have e := three_cells (cs := cs.toList) hl e0 e1 e2
  exact ⟨k0, k1, k2, Array.toList_inj.1 e⟩
end Go.Proofs.Ytomclflknjkhfaa
