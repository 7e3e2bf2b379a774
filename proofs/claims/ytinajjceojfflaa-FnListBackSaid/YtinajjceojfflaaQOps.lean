/- package queue: New, Enqueue, Dequeue, Peek, Empty; impl.pulled. -/
import Derived.Test.YtinajjceojfflaaQList
import Derived.Recover
import Derived.Laws.Pointers
namespace Go.Proofs.Ytinajjceojfflaa
open Go.RowKit

structure QI (w : World) (qb lb : Nat) (ns : List (Nat × Int)) : Prop where
  blk : Blk w qb #[.pointer (some ⟨lb, 0, none⟩)] 104
  dl : DL w lb ns
theorem DL.lt {w : World} {lb : Nat} {ns : List (Nat × Int)} (h : DL w lb ns) : ∀ a ∈ idsOf ns, a < w.heap.size := by
  intro a ha
  obtain ⟨p, hp, rfl⟩ := List.mem_map.1 ha
  obtain ⟨i, hi, rfl⟩ := List.getElem_of_mem hp
  exact (h.nodes i _ (List.getElem?_eq_getElem hi)).lt
theorem QI.ne {w : World} {qb lb : Nat} {ns : List (Nat × Int)} (h : QI w qb lb ns) : qb ∉ lb :: idsOf ns := by
  rw [List.mem_cons]
  rintro (e | e)
  · exact blk_ne h.blk h.dl.blk (by decide) e
  · obtain ⟨p, hp, e⟩ := List.mem_map.1 e
    obtain ⟨i, hi, rfl⟩ := List.getElem_of_mem hp
    exact blk_ne h.blk (h.dl.nodes i _ (List.getElem?_eq_getElem hi)) (by decide) e.symm
theorem QI.fr {w w' : World} {qb lb : Nat} {ns : List (Nat × Int)} (h : QI w qb lb ns) {S : List Nat} (hf : Fr S w w') (h0 : qb ∉ S) (h1 : lb ∉ S) (h2 : ∀ x ∈ idsOf ns, x ∉ S) : QI w' qb lb ns := ⟨h.blk.fr hf h0, h.dl.fr hf h1 h2⟩
theorem queueNew_calls (w : World) : Calls Try.prog 35 #[] w fun e w' => ∃ qb lb, e = .returned (.pointer (some ⟨qb, 0, none⟩)) ∧ QI w' qb lb [] ∧ w.heap.size ≤ qb ∧ w.heap.size ≤ lb ∧ Below w.heap.size w w' := by
  go_enter Try.func35, Try.ntmps35
  go_wp2
  go_ret
  refine ⟨w.heap.size + 1, w.heap.size, by simp, ⟨?_, ⟨?_, fun i p hi => by simp at hi, by simp⟩⟩, by omega, by omega, ((Below.refl _ w).alloc (Nat.le_refl _) _).alloc (by simp) _⟩
  · have := Blk.new (w.alloc (Obj.cells #[.pointer none, .pointer none] 109)) #[.pointer (some ⟨w.heap.size, 0, none⟩)] 104
    simpa using this
  · exact (Blk.new w #[.pointer none, .pointer none] 109).alloc _
set_option maxHeartbeats 800000 in
theorem enqueue_calls (qb lb : Nat) (x : Int) (ns : List (Nat × Int)) (w : World) (h : QI w qb lb ns) :
    Calls Try.prog 36 #[.pointer (some ⟨qb, 0, none⟩), .int .i64 x] w fun e w' => e = .returned (.tuple #[]) ∧ QI w' qb lb (ns ++ [(w.heap.size, x)]) ∧ Fr (lb :: idsOf ns) w w' := by
  have q0 : w.cell? ⟨qb, 0, none⟩ = some (.pointer (some ⟨lb, 0, none⟩)) := h.blk.cell 0
  have HH := Lib.hid h
  clear h
  go_enter Try.func36, Try.ntmps36
  go_wp2_with fail
  refine (pushBack_calls lb x ns w HH.out.dl).mono ?_
  rintro e w1 ⟨rfl, h1, f1⟩
  go_wp2_with fail
  go_end0
  exact ⟨rfl, ⟨HH.out.blk.fr f1 HH.out.ne, h1⟩, f1⟩
theorem empty_calls (qb lb : Nat) (ns : List (Nat × Int)) (w : World) (h : QI w qb lb ns) :
    Calls Try.prog 40 #[.pointer (some ⟨qb, 0, none⟩)] w fun e w' => e = .returned (.bool ns.isEmpty) ∧ w' = w := by
  have q0 : w.cell? ⟨qb, 0, none⟩ = some (.pointer (some ⟨lb, 0, none⟩)) := h.blk.cell 0
  have l0 : w.cell? ⟨lb, 0, none⟩ = some (.pointer (idAt ns 0)) := h.dl.blk.cell 0
  cases ns with
  | nil =>
    have l0' : w.cell? ⟨lb, 0, none⟩ = some (.pointer none) := l0
    clear h l0
    go_enter Try.func40, Try.ntmps40
    go_wp2
    go_ret
    exact ⟨rfl, rfl⟩
  | cons p ns =>
    have l0' : w.cell? ⟨lb, 0, none⟩ = some (.pointer (some ⟨p.1, 0, none⟩)) := l0
    clear h l0
    go_enter Try.func40, Try.ntmps40
    go_wp2
    go_ret
    exact ⟨rfl, rfl⟩
theorem peek_some (qb lb b : Nat) (x : Int) (ns : List (Nat × Int)) (w : World) (h : QI w qb lb ((b, x) :: ns)) :
    Calls Try.prog 39 #[.pointer (some ⟨qb, 0, none⟩)] w fun e w' => e = .returned (.int .i64 x) ∧ w' = w := by
  have q0 : w.cell? ⟨qb, 0, none⟩ = some (.pointer (some ⟨lb, 0, none⟩)) := h.blk.cell 0
  have l0 : w.cell? ⟨lb, 0, none⟩ = some (.pointer (some ⟨b, 0, none⟩)) := h.dl.blk.cell 0
  have b0 : w.cell? ⟨b, 0, none⟩ = some (.int .i64 x) := (h.dl.nodes 0 (b, x) rfl).cell 0
  clear h
  go_enter Try.func39, Try.ntmps39
  go_wp2
  go_ret
  exact ⟨rfl, rfl⟩
theorem peek_none (qb lb : Nat) (w : World) (h : QI w qb lb []) :
    Calls Try.prog 39 #[.pointer (some ⟨qb, 0, none⟩)] w fun e w' => (∃ u pv, e = .panicked [{ v := .iface u pv, recovered := false }]) ∧ w' = w := by
  have q0 : w.cell? ⟨qb, 0, none⟩ = some (.pointer (some ⟨lb, 0, none⟩)) := h.blk.cell 0
  have l0 : w.cell? ⟨lb, 0, none⟩ = some (.pointer none) := h.dl.blk.cell 0
  clear h
  go_enter Try.func39, Try.ntmps39
  go_wp2
  exact ⟨rfl, ⟨_, _, rfl⟩, rfl⟩
set_option maxHeartbeats 800000 in
theorem dequeue_none (qb lb : Nat) (w : World) (h : QI w qb lb []) :
    Calls Try.prog 38 #[.pointer (some ⟨qb, 0, none⟩)] w fun e w' => (∃ u pv, e = .panicked [{ v := .iface u pv, recovered := false }]) ∧ w' = w := by
  have q0 : w.cell? ⟨qb, 0, none⟩ = some (.pointer (some ⟨lb, 0, none⟩)) := h.blk.cell 0
  have l0 : w.cell? ⟨lb, 0, none⟩ = some (.pointer none) := h.dl.blk.cell 0
  clear h
  go_enter Try.func38, Try.ntmps38
  go_wp2
  exact ⟨rfl, ⟨_, _, rfl⟩, rfl⟩
set_option maxHeartbeats 800000 in
theorem dequeue_some (qb lb b : Nat) (x : Int) (ns : List (Nat × Int)) (w : World) (h : QI w qb lb ((b, x) :: ns)) :
    Calls Try.prog 38 #[.pointer (some ⟨qb, 0, none⟩)] w fun e w' => e = .returned (.int .i64 x) ∧ QI w' qb lb ns ∧ Fr (lb :: idsOf ns) w w' := by
  have q0 : w.cell? ⟨qb, 0, none⟩ = some (.pointer (some ⟨lb, 0, none⟩)) := h.blk.cell 0
  have l0 : w.cell? ⟨lb, 0, none⟩ = some (.pointer (some ⟨b, 0, none⟩)) := h.dl.blk.cell 0
  have b0 : w.cell? ⟨b, 0, none⟩ = some (.int .i64 x) := (h.dl.nodes 0 (b, x) rfl).cell 0
  have HH := Lib.hid h
  have HN := Lib.hid (show qb ∉ lb :: idsOf ns from fun hx => h.ne (by
    rcases List.mem_cons.1 hx with rfl | hx
    · exact List.mem_cons_self ..
    · exact List.mem_cons_of_mem _ (List.mem_cons_of_mem _ hx)))
  have HC := Lib.hid (removeFront_calls lb b x ns w.drew ((h.dl.fr (Fr.drewN [] w 1) (by simp) (by simp) : DL (World.drewN w 1) lb _)))
  clear h
  go_enter Try.func38, Try.ntmps38
  go_wp2_with fail
  go_region_with (first | (go_at_call 80; refine HC.out.mono ?_; rintro e w1 ⟨rfl, h1, f1⟩))
  all_goals
    go_wp2_with fail
    go_ret
    have f2 : Fr (lb :: idsOf ns) w w1 := (Fr.drewN _ w 1 : Fr _ w w.drew).comp f1
    exact ⟨rfl, ⟨HH.out.blk.fr f2 HN.out, h1⟩, f2⟩
end Go.Proofs.Ytinajjceojfflaa
