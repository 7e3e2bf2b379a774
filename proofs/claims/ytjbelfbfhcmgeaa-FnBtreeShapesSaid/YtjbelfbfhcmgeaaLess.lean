/- impl.less: a function of an order's table. -/
import Derived.Test.YtjbelfbfhcmgeaaOrd
namespace Go.Proofs.Ytjbelfbfhcmgeaa
open Go.RowKit

/-- impl.less: the order's table lies in a block of its own from then on. -/
theorem lessMake_calls (xs : List Int) (ov : Value) (w : World) (ho : SlR w w.heap.size ov (xs.map i64v)) :
    Calls Try.prog 29 #[ov] w fun e w' => ∃ f, e = .returned f ∧ LessOk w' w'.heap.size f xs ∧ Below w.heap.size w w' := by
  obtain ⟨A, c, rfl⟩ := ho.form
  rw [List.length_map] at *
  have H := Lib.hid ho
  clear ho
  go_enter Try.func29, Try.ntmps29
  go_wp2
  go_ret
  have hb : Below w.heap.size w (w.alloc (Obj.cells #[.slice A xs.length c] 22)) := (Below.refl _ _).alloc (Nat.le_refl _) _
  exact ⟨_, rfl, ⟨w.heap.size, _, rfl, by simp, (Blk.new w #[.slice A xs.length c] 22).cell 0, (H.out.below hb).mono (by simp)⟩, hb⟩
/-- impl.less, then one more call that only reads. -/
theorem LessOk.fn {w : World} {B : Nat} {f : Value} {xs : List Int} (h : LessOk w B f xs) : ∃ g fi ca, f = .func g fi ca := by
  obtain ⟨_, _, rfl, _⟩ := h; exact ⟨_, _, _, rfl⟩
end Go.Proofs.Ytjbelfbfhcmgeaa
