/- an argument of []impl.Word, opened. -/
import Derived.Test.YtlpcddmcddenfaaOpen
import Derived.Test.YtlpcddmcddenfaaTriX
namespace Go.Proofs.Ytlpcddmcddenfaa
open Go.ChangeShapes Go.WideShapes Go.ChangeAt Go.RowKit Go.Deep Tri Kp
theorem str_of (s : ByteArray) : Value.string s = str s.data.toList := by simp [str]
theorem cells_of_open_SlW {cs : List Value} {a b c : Value} (hl : cs.length = 3) (e0 : (cs.drop 0).take 1 = [a]) (e1 : (cs.drop 1).take 1 = [b]) (e2 : (cs.drop 2).take 1 = [c]) : cs = [a, b, c] := by
  rcases cs with _ | ⟨x0, _ | ⟨x1, _ | ⟨x2, _ | ⟨zz, r⟩⟩⟩⟩ <;> simp at hl
  simp at e0 e1 e2
  rw [e0, e1, e2]
theorem open_SlW {H : Type} {enc : TypeId × Value → H} {w : World} {A : Option Addr} {n c : Nat} {d : DataW H} {ps : List MemPlace}
    (h : DataW.Trod enc Try.prog w 0 (fun _ => true) true 22 (.slice A n c) d ps) : ∃ l : List WordD, SlC 3 wordCell w w.heap.size (.slice A n c) l := by
  obtain ⟨l, h1, h2, h3, h4⟩ := open_rows (α := WordD) wordCell (C := 3) (by kernel_rfl) (by decide) (fun _ => rfl) Try.underlying22 (fun n cs x hx => by
    obtain ⟨hl, hf⟩ := open_agg Try.underlying28 hx
    rw [show Try.prog.cellsOf 28 = 3 by kernel_rfl] at hl
    obtain ⟨_, _, f0⟩ := hf 0 _ rfl
    obtain ⟨_, _, f1⟩ := hf 1 _ rfl
    obtain ⟨_, _, f2⟩ := hf 2 _ rfl
    obtain ⟨k0, e0, _⟩ := DataW.trod_int Try.underlying3 f0
    obtain ⟨k1, e1, _⟩ := DataW.trod_string Try.underlying9 f1
    obtain ⟨k2, e2, _⟩ := DataW.trod_int Try.underlying3 f2
    have cci : Try.prog.cellsOf 3 = 1 := by kernel_rfl
    have ccs : Try.prog.cellsOf 9 = 1 := by kernel_rfl
    change List.take (Try.prog.cellsOf 3) (List.drop 0 cs) = _ at e0
    change List.take (Try.prog.cellsOf 9) (List.drop 1 cs) = _ at e1
    change List.take (Try.prog.cellsOf 3) (List.drop 2 cs) = _ at e2
    rw [cci] at e0 e2
    rw [ccs] at e1
    rw [str_of] at e1
    exact ⟨⟨k0, k1.data.toList, k2⟩, cells_of_open_SlW hl e0 e1 e2⟩) h
  refine ⟨l, ⟨A, c, by rw [h1], ?_⟩⟩
  rcases h3 with rfl | ⟨b, off, e1, e2, e3, e4, e5⟩
  · exact .inl rfl
  · exact .inr ⟨b, off, e1, by rw [h1]; exact e2, e4, e4, e5⟩
theorem open_SlU {H : Type} {enc : TypeId × Value → H} {w : World} {A : Option Addr} {n c : Nat} {d : DataW H} {ps : List MemPlace}
    (h : DataW.Trod enc Try.prog w 0 (fun _ => true) true 29 (.slice A n c) d ps) : ∃ l : List Txt, SlC 1 (fun x => [str x]) w w.heap.size (.slice A n c) l := by
  obtain ⟨l, h1, h2, h3, h4⟩ := open_rows (α := Txt) (fun x => [str x]) (C := 1) (by kernel_rfl) (by decide) (fun _ => rfl) Try.underlying29 (fun n cs x hx => by
    obtain ⟨k1, e1, _⟩ := DataW.trod_string Try.underlying9 hx
    rw [str_of] at e1
    exact ⟨k1.data.toList, e1⟩) h
  refine ⟨l, ⟨A, c, by rw [h1], ?_⟩⟩
  rcases h3 with rfl | ⟨b, off, e1, e2, e3, e4, e5⟩
  · exact .inl rfl
  · exact .inr ⟨b, off, e1, by rw [h1]; exact e2, e4, e4, e5⟩
end Go.Proofs.Ytlpcddmcddenfaa
