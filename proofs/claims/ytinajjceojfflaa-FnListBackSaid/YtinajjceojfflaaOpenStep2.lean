/- an argument of steps, opened. -/
import Derived.Test.YtinajjceojfflaaOpen
import Derived.Test.YtinajjceojfflaaSeen
namespace Go.Proofs.Ytinajjceojfflaa
open Go.ChangeShapes Go.WideShapes Go.ChangeAt Go.RowKit Go.Deep
theorem four_cells {cs : List Value} {a b c d : Value} (hl : cs.length = 4) (e0 : (cs.drop 0).take 1 = [a]) (e1 : (cs.drop 1).take 1 = [b]) (e2 : (cs.drop 2).take 1 = [c]) (e3 : (cs.drop 3).take 1 = [d]) : cs = [a, b, c, d] := by
  rcases cs with _ | ⟨x, _ | ⟨y, _ | ⟨z, _ | ⟨u, _ | ⟨v, r⟩⟩⟩⟩⟩ <;> simp at hl
  simp at e0 e1 e2 e3
  rw [e0, e1, e2, e3]
theorem open_SlS {H : Type} {enc : TypeId × Value → H} {w : World} {A : Option Addr} {n c : Nat} {d : DataW H} {ps : List MemPlace}
    (h : DataW.Trod enc Try.prog w 0 (fun _ => true) true 23 (.slice A n c) d ps) : ∃ l : List StepD, SlC 4 stepCell w w.heap.size (.slice A n c) l := by
  obtain ⟨l, h1, h2, h3, h4⟩ := open_rows (α := StepD) stepCell (C := 4) (by kernel_rfl) (by decide) (fun _ => rfl) Try.underlying23 (fun n cs x hx => by
    obtain ⟨hl, hf⟩ := open_agg Try.underlying28 hx
    rw [show Try.prog.cellsOf 28 = 4 by kernel_rfl] at hl
    obtain ⟨_, _, f0⟩ := hf 0 _ rfl
    obtain ⟨_, _, f1⟩ := hf 1 _ rfl
    obtain ⟨_, _, f2⟩ := hf 2 _ rfl
    obtain ⟨_, _, f3⟩ := hf 3 _ rfl
    obtain ⟨k0, e0, _⟩ := DataW.trod_int Try.underlying3 f0
    obtain ⟨k1, e1, _⟩ := DataW.trod_int Try.underlying3 f1
    obtain ⟨k2, e2, _⟩ := DataW.trod_int Try.underlying3 f2
    obtain ⟨k3, e3, _⟩ := DataW.trod_int Try.underlying3 f3
    have c1 : Try.prog.cellsOf 3 = 1 := by kernel_rfl
    change List.take (Try.prog.cellsOf 3) (List.drop 0 cs) = _ at e0
    change List.take (Try.prog.cellsOf 3) (List.drop 1 cs) = _ at e1
    change List.take (Try.prog.cellsOf 3) (List.drop 2 cs) = _ at e2
    change List.take (Try.prog.cellsOf 3) (List.drop 3 cs) = _ at e3
    rw [c1] at e0 e1 e2 e3
    exact ⟨⟨k0, k1, k2, k3⟩, four_cells hl e0 e1 e2 e3⟩) h
  refine ⟨l, ⟨A, c, by rw [h1], ?_⟩⟩
  rcases h3 with rfl | ⟨b, off, e1, e2, e3, e4, e5⟩
  · exact .inl rfl
  · exact .inr ⟨b, off, e1, by rw [h1]; exact e2, e4, e4, e5⟩
end Go.Proofs.Ytinajjceojfflaa
