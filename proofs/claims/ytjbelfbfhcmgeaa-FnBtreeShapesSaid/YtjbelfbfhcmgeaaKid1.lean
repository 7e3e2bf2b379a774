/- spec.Kids, spec.Branches. -/
import Derived.Test.YtjbelfbfhcmgeaaKid
import Derived.Laws.MakeOwn
import Derived.Laws.OwnMore
import Derived.IntWalk
namespace Go.Proofs.Ytjbelfbfhcmgeaa.Kp
open Go.RowKit

/-- what Kids leaves: a new table; where the list is one tree, of the places of all parts. -/
def KidsOk (has : List (List Bool)) : Bool := decide (has = [] ∨ ends has 0 = some has.length)
def KidsPost (has : List (List Bool)) (w : World) (e : Ending) (w' : World) : Prop :=
  Below w.heap.size w w' ∧ ∃ v, e = .returned (.tuple #[v, .bool (KidsOk has)]) ∧ ∃ A c, v = .slice A has.length c ∧ (KidsOk has = true → SS num1 w' w'.heap.size v ((List.range has.length).map (kidsAt has)))
theorem Try.infoRow : (Try.prog.info? 22).map (fun i => (i.zero, i.size, i.bytes)) = some (some (.slice none 0 0), 1, 24) := by kernel_rfl
theorem made_get (n j : Nat) (h : j < n) : (madeCells (Value.slice none 0 0).cells (n * 1))[j]? = some (.slice none 0 0) := by
  show (madeCells #[Value.slice none 0 0] (n * 1))[j]? = _
  rw [← Array.getElem?_toList, toList_madeCells_one, Nat.mul_one, List.getElem?_replicate]
  simp [h]
theorem rows_SS {has : List (List Bool)} {w : World} {ob B n : Nat} {cs : Array Value} (hn : has.length = n) (hb : Blk w ob cs 22) (hz : cs.size = n) (h : ∀ j, 0 ≤ j → j < n → RowAt w B cs j (kidsAt has j)) : SS num1 w w.heap.size (.slice (some ⟨ob, 0, none⟩) n n) ((List.range n).map (kidsAt has)) := by
  refine ⟨⟨_, n, by simp, .inr ⟨ob, 0, rfl, by simp, hb.lt, hb.lt, fun i xs hi => ?_⟩⟩⟩
  rw [List.getElem?_map] at hi
  have hlt : i < n := by
    by_cases hlt : i < n
    · exact hlt
    · rw [List.getElem?_eq_none (by simp; omega)] at hi; cases hi
  rw [List.getElem?_range hlt] at hi
  cases hi
  obtain ⟨u, hu, ho⟩ := h i (Nat.zero_le _) hlt
  exact ⟨u, by rw [Nat.zero_add, hb.cell i]; exact hu, own_SlC num1_len (by rw [num1_flat]; exact ho)⟩
set_option maxRecDepth 100000 in
set_option maxHeartbeats 1600000 in
theorem kids_calls (has : List (List Bool)) (hn : has.length ≤ 5000000000) (hb : ∀ bs ∈ has, bs.length ≤ 1000000) (hv : Value) (w : World) (hs : SS bool1 w w.heap.size hv has) :
    Calls Try.prog 33 #[hv] w (KidsPost has w) := by
  obtain ⟨i0, hi0, hz0, hz1, hz2⟩ := info_parts Try.infoRow
  have hmk : ∀ W : World, (Instr.makeSlice 31 (.int .i64 (has.length : Int)) (.int .i64 (has.length : Int))).run Try.prog W = .ok (.slice (some ⟨W.heap.size, 0, none⟩) has.length has.length) (W.alloc (.cells (madeCells (Value.slice none 0 0).cells (has.length * 1)) 22)) := fun W => by
    have h := run_make (P := Try.prog) W 31 22 i0 _ Try.underlying31 hi0 hz0 .i64 .i64 has.length has.length (by omega) (by omega) (by rw [hz2]; omega) (by omega)
    rw [hz1] at h
    simpa using h
  have ho : Blk (w.alloc (.cells (madeCells (Value.slice none 0 0).cells (has.length * 1)) 22)) w.heap.size (madeCells (Value.slice none 0 0).cells (has.length * 1)) 22 := Blk.new _ _ _
  have hz : (madeCells (Value.slice none 0 0).cells (has.length * 1)).size = has.length := by rw [size_madeCells]; omega
  have hget := fun j (_ : 0 ≤ j) h => made_get has.length j h
  have hbel : Below w.heap.size w (w.alloc (.cells (madeCells (Value.slice none 0 0).cells (has.length * 1)) 22)) := (Below.refl _ w).alloc (Nat.le_refl _) _
  generalize (madeCells (Value.slice none 0 0).cells (has.length * 1)) = cs at *
  generalize hW : w.alloc (.cells cs 22) = W1 at *
  have HC := Lib.hid (kid_calls has hn hb hv w.heap.size has.length 0 (by omega) (by omega) W1 w.heap.size cs (hs.below hbel) ho hz (Nat.le_refl _) hget)
  have HW := Lib.hid hW
  obtain ⟨A, c, rfl⟩ := hs.form
  have HO := Lib.hid (And.intro ho (And.intro hz hbel))
  clear hs hb ho hz hget hW hbel
  by_cases h0 : has = []
  · subst h0
    have h0 : KidsOk [] = true := by unfold KidsOk; simp
    have h1 : KidsPost [] w (.returned (.tuple #[.slice (some ⟨w.heap.size, 0, none⟩) 0 0, .bool true])) W1 :=
      ⟨HO.out.2.2, .slice (some ⟨w.heap.size, 0, none⟩) 0 0, by rw [h0], _, 0, rfl, fun _ => ⟨⟨_, 0, rfl, .inl rfl⟩⟩⟩
    have H1 := Lib.hid h1
    replace hmk : ∀ W : World, (Instr.makeSlice 31 (.int .i64 0) (.int .i64 0)).run Try.prog W = .ok (.slice (some ⟨W.heap.size, 0, none⟩) 0 0) (W.alloc (.cells cs 22)) := hmk
    clear h0 h1
    go_enter Try.func33, Try.ntmps33
    go_wp2_with fail
    go_ret2
    rw [HW.out]
    exact H1.out
  have hp : 0 < has.length := List.length_pos_iff.2 h0
  have hpz : ((has.length : Int) == 0) = false := by rw [beq_eq_false_iff_ne]; omega
  have H0 := Lib.hid h0
  clear h0
  cases he : ends has 0 with
  | none =>
    have hk : KidsOk has = false := by unfold KidsOk; rw [he]; simp [H0.out]
    have HK := Lib.hid (And.intro he hk)
    have hne : ((-1 : Int) == (has.length : Int)) = false := by rw [beq_eq_false_iff_ne]; omega
    clear he hk
    go_enter Try.func33, Try.ntmps33
    go_wp2_with fail
    rw [HW.out]
    refine HC.out.mono ?_
    rintro e w2 ⟨f, ⟨cs2, hb2, hz2, _⟩, he⟩
    rw [HK.out.1] at he
    subst he
    go_wp2_with fail
    go_ret2
    refine ⟨HO.out.2.2.trans ⟨f.os, f.tape, f.output, f.size, fun j hj => f.block j (by have := HO.out.2.2.size; omega) (by simp; omega)⟩, _, by rw [HK.out.2]; rfl, _, _, rfl, fun h => by rw [HK.out.2] at h; cases h⟩
  | some r =>
    have hr := ends_gt he
    have hk : KidsOk has = decide (r = has.length) := by unfold KidsOk; rw [he]; simp [H0.out]
    have HK := Lib.hid (And.intro he hk)
    clear he hk
    go_enter Try.func33, Try.ntmps33
    go_wp2_with fail
    rw [HW.out]
    refine HC.out.mono ?_
    rintro e w2 ⟨f, ⟨cs2, hb2, hz2, hr2⟩, he⟩
    rw [HK.out.1] at he
    subst he
    replace hr2 := (hr2 r HK.out.1).2
    go_wp2_with fail
    go_ret2
    refine ⟨HO.out.2.2.trans ⟨f.os, f.tape, f.output, f.size, fun j hj => f.block j (by have := HO.out.2.2.size; omega) (by simp; omega)⟩, .slice (some ⟨w.heap.size, 0, none⟩) has.length has.length, ?_, _, _, rfl, fun h => ?_⟩
    · rw [HK.out.2, show decide (r = has.length) = ((r : Int) == (has.length : Int)) by rw [Bool.eq_iff_iff]; simp; omega]
      rfl
    · rw [HK.out.2] at h
      have := of_decide_eq_true h
      subst this
      exact rows_SS rfl hb2 hz2 hr2
/-- the parts of a list's nodes. -/
def has2 {α : Type} (l r : α → Bool) (xs : List α) : List (List Bool) := xs.map fun a => [l a, r a]
end Go.Proofs.Ytjbelfbfhcmgeaa.Kp
