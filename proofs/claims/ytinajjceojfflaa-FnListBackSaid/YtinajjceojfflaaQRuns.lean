/- laws.FnQueueRuns. -/
import Derived.Test.YtinajjceojfflaaQSpec
import Derived.Test.YtinajjceojfflaaSameS
namespace Go.Proofs.Ytinajjceojfflaa
open Go.RowKit

theorem stepQ_size (a : StepD) (xs : List Int) : (stepQ a xs).2.keys.length ≤ xs.length ∧ (stepQ a xs).2.vals = [] := by
  unfold stepQ
  repeat' split
  all_goals simp [SeenD.none]
  all_goals (cases xs <;> simp)
theorem runQ_size : ∀ (l : List StepD) (xs : List Int), ∀ d ∈ (runQ xs l).2, d.keys.length ≤ xs.length + l.length ∧ d.vals = []
  | [], _ => by simp [runQ]
  | a :: l, xs => by
    intro d hd
    have h1 := stepQ_size a xs
    have h2 := stepQ_len a xs
    simp only [runQ, List.mem_cons] at hd
    rcases hd with rfl | hd
    · exact ⟨by have := h1.1; simp; omega, h1.2⟩
    · have := runQ_size l _ d hd
      exact ⟨by have := this.1; simp; omega, this.2⟩
theorem Seens.below {w w' : World} {B : Nat} {v : Value} {ds : List SeenD} (h : Seens w B v ds) (hb : Below w.heap.size w w') : Seens w' B v ds := by
  obtain ⟨cs, ho, ht⟩ := h
  refine ⟨cs, ⟨ho.1, ho.2.imp id ?_⟩, (KeepsInts.below hb).tr ht⟩
  rintro ⟨g, cap, cur, e1, e2, e3, e4⟩
  exact ⟨g, cap, cur, e1, e2, (show Blk w' g cur _ from (show Blk w g cur _ from e3).below hb (show Blk w g cur _ from e3).lt), e4⟩
theorem one_step (w2 : World) (a : StepD) : SlC 4 stepCell (w2.alloc (Obj.cells #[.int .i64 a.on, .int .i64 a.act, .int .i64 a.key, .int .i64 a.val] 28)) (w2.alloc (Obj.cells #[.int .i64 a.on, .int .i64 a.act, .int .i64 a.key, .int .i64 a.val] 28)).heap.size (.slice (some ⟨w2.heap.size, 0, none⟩) 1 1) [a] := by
  refine ⟨⟨_, 1, rfl, .inr ⟨w2.heap.size, 0, rfl, by simp, by simp, by simp, fun i b hi j u hj => ?_⟩⟩⟩
  cases i with
  | succ i => simp at hi
  | zero =>
    simp at hi; subst hi
    have := (Blk.new w2 #[.int .i64 a.on, .int .i64 a.act, .int .i64 a.key, .int .i64 a.val] 28).cell j
    rw [show 0 + 0 * 4 + j = j by omega, this]
    rw [← hj]; simp [stepCell]
set_option maxRecDepth 100000 in
set_option maxHeartbeats 3200000 in
theorem queueRuns_calls (lv : Value) (l : List StepD) (w : World) (hl : SlC 4 stepCell w w.heap.size lv l) :
    Calls Try.prog 6 #[lv] w fun e w' => e = .returned (.bool true) ∧ Below w.heap.size w w' := by
  obtain ⟨A3, c3, rfl⟩ := hl.form
  have HL := Lib.hid hl
  clear hl
  by_cases b3 : (l.length : Int) ≤ 2147483647
  case neg =>
    go_enter Try.func6, Try.ntmps6
    go_wp2
    go_ret
    exact ⟨rfl, Below.refl _ _⟩
  go_enter Try.func6, Try.ntmps6
  go_wp2_with fail
  refine (queueRun_calls _ l w HL.out (by omega)).mono ?_
  rintro e w1 ⟨v1, rfl, s1, hb1⟩
  have HB1 := Lib.hid hb1
  have HS1 := Lib.hid s1
  clear hb1 s1
  go_wp2_with fail
  refine (specQueue_calls _ l w1 ((HL.out.below HB1.out).mono HB1.out.size) (by omega)).mono ?_
  rintro e w2 ⟨v2, rfl, s2, hb2⟩
  have HB2 := Lib.hid (HB1.out.trans (hb2.mono HB1.out.size))
  have HS2 := Lib.hid (And.intro (HS1.out.below hb2) s2)
  clear hb2 s2
  go_wp2_with fail
  refine (seenSame_calls _ _ _ _ (runQ [] l).2 w2 HS2.out.1 HS2.out.2 (by rw [runQ_len]; omega) (fun d hd => by have := runQ_size l [] d hd; rw [this.2]; have := this.1; simp at this ⊢; omega)).mono ?_
  rintro e w3 ⟨rfl, n, rfl⟩
  have HB3 := Lib.hid ((HB2.out.trans (Below.drewN _ n)).alloc HB2.out.size (Obj.cells #[.int .i64 0, .int .i64 0, .int .i64 0, .int .i64 0] 28))
  have HO := Lib.hid (one_step (w2.drewN n) ⟨0, 0, 0, 0⟩)
  go_wp2_with fail
  refine (queueRun_calls _ [⟨0, 0, 0, 0⟩] _ HO.out (by simp)).mono ?_
  rintro e w4 ⟨v4, rfl, s4, hb4⟩
  obtain ⟨A6, c6, e6⟩ := s4.form
  rw [runQ_len] at e6
  replace e6 : v4 = .slice A6 1 c6 := e6
  subst e6
  have HB4 := Lib.hid (HB3.out.trans (hb4.mono HB3.out.size))
  clear s4 hb4
  go_wp2_with fail
  go_ret
  exact ⟨rfl, HB4.out⟩
end Go.Proofs.Ytinajjceojfflaa
