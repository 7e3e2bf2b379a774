/- Line.May, and the functions of Line.Do. -/
import Derived.Test.YtinajjceojfflaaLS0
namespace Go.Proofs.Ytinajjceojfflaa.Kp
open Go.RowKit

/-- whether a step may be done. -/
def mayZ (vals row : List Int) (a : StepD) : Bool :=
  if a.act = 2 ∨ a.act = 7 ∨ a.act = 8 then decide (0 ≤ findL row a.val)
  else if a.act = 3 ∨ a.act = 4 then !decide (0 ≤ findL row a.val) && (decide (0 ≤ a.val) && decide (a.val < vals.length))
  else true
/-- blocks of the list and of the step, new. -/
theorem two_new (w : World) (c0 c1 : Array Value) (T0 T1 : TypeId) : let W := (w.alloc (.cells c0 T0)).alloc (.cells c1 T1)
    Blk W w.heap.size c0 T0 ∧ Blk W (w.heap.size + 1) c1 T1 ∧ Below w.heap.size w W ∧ W.heap.size = w.heap.size + 1 + 1 := by
  have e1 : (w.alloc (Obj.cells c0 T0)).heap.size = w.heap.size + 1 := by simp
  refine ⟨(Blk.new w c0 T0).alloc _, ?_, ((Below.refl _ w).alloc (Nat.le_refl _) _).alloc (by simp) _, by simp⟩
  rw [← e1]; exact Blk.new _ c1 T1
set_option maxRecDepth 100000 in
set_option maxHeartbeats 3200000 in
theorem may_calls (vals row : List Int) (vv rv : Value) (on act key val : Int) (w : World) (hv : NS w vv vals) (hr : NS w rv row) (hn : row.length ≤ 100000000000) (hn2 : vals.length ≤ 100000000000) :
    Calls Try.prog 44 #[.agg #[vv, rv], .agg #[.int .i64 on, .int .i64 act, .int .i64 key, .int .i64 val]] w fun e w' => e = .returned (.bool (mayZ vals row ⟨on, act, key, val⟩)) ∧ Below w.heap.size w w' := by
  obtain ⟨A, c, rfl⟩ := hv.form
  obtain ⟨A2, c2, rfl⟩ := hr.form
  have F := two_new w #[.slice A vals.length c, .slice A2 row.length c2] #[.int .i64 on, .int .i64 act, .int .i64 key, .int .i64 val] 71 28
  have HC := Lib.hid (lineAt_calls row _ val _ (hr.below F.2.2.1) hn)
  have HZ := Lib.hid (show mayZ vals row ⟨on, act, key, val⟩ = mayZ vals row ⟨on, act, key, val⟩ from rfl)
  have hcs : ∃ f, f = findL row val := ⟨_, rfl⟩
  obtain ⟨f, hf⟩ := hcs
  rw [← hf] at HC
  obtain ⟨r, hr2⟩ : ∃ r, r = mayZ vals row ⟨on, act, key, val⟩ := ⟨_, rfl⟩
  rw [← hr2]
  have HR : Hid (r = if act = 2 ∨ act = 7 ∨ act = 8 then decide (0 ≤ f) else if act = 3 ∨ act = 4 then !decide (0 ≤ f) && (decide (0 ≤ val) && decide (val < vals.length)) else true) := Lib.hid (by rw [hr2, hf]; rfl)
  clear hr2 hf HZ hv hr
  have FF := Lib.hid F
  have s1 := F.2.1.cell 1
  have s3 := F.2.1.cell 3
  have c0 := F.1.cell 0
  have c1 := F.1.cell 1
  simp only [List.getElem?_toArray, List.getElem?_cons_succ, List.getElem?_cons_zero] at s1 s3 c0 c1
  clear F
  have dd : act = 2 ∨ act = 7 ∨ act = 8 ∨ ((act = 3 ∨ act = 4) ∧ 0 ≤ f) ∨ ((act = 3 ∨ act = 4) ∧ ¬ 0 ≤ f ∧ ¬ 0 ≤ val) ∨ ((act = 3 ∨ act = 4) ∧ ¬ 0 ≤ f ∧ 0 ≤ val) ∨ ((act == 2) = false ∧ (act == 7) = false ∧ (act == 8) = false ∧ (act == 3) = false ∧ (act == 4) = false) := by
    simp only [beq_eq_false_iff_ne]; omega
  rcases dd with rfl | rfl | rfl | ⟨rfl | rfl, g1⟩ | ⟨rfl | rfl, g1, g2⟩ | ⟨rfl | rfl, g1, g2⟩ | ⟨e2, e7, e8, e3, e4⟩
  all_goals
    try (have g1' := eq_true g1)
    try (have g1' := eq_false g1)
    try (have g2' := eq_false g2)
    try (have g2' := eq_true g2)
    try clear g1
    try clear g2
    go_enter Try.func44, Try.ntmps44
    go_wp2_with fail
    refine HC.out.mono ?_
    rintro e w1 ⟨rfl, rfl⟩
    go_wp2_with fail
    go_ret
    refine ⟨?_, FF.out.2.2.1⟩
    rw [HR.out]
    first | rfl | (simp_all; done) | (simp [*]; done) | (simp only [beq_eq_false_iff_ne] at *; simp [*]; done)
/-- the list in memory. -/
structure LZ (w : World) (bb : Nat) (vv rv : Value) (vals row : List Int) : Prop where
  blk : Blk w bb #[vv, rv] 71
  vs : NS w vv vals
  rs : NS w rv row
theorem LZ.below {w w' : World} {bb : Nat} {vv rv : Value} {vals row : List Int} (h : LZ w bb vv rv vals row) (hb : Below w.heap.size w w') : LZ w' bb vv rv vals row := ⟨h.blk.below hb h.blk.lt, h.vs.below hb, h.rs.below hb⟩
set_option maxRecDepth 100000 in
set_option maxHeartbeats 1600000 in
theorem back_calls (bb : Nat) (vv rv : Value) (vals row : List Int) (n : Int) (w : World) (h : LZ w bb vv rv vals row) (hn : row.length ≤ 100000000000) :
    Calls Try.prog 83 #[.int .i64 n, .pointer (some ⟨bb, 0, none⟩)] w (Row1 w (row ++ [n])) := by
  obtain ⟨i0, hi0, hz0, hz1, hz2⟩ := info_parts Try.infoInt
  obtain ⟨A, c, rfl⟩ := h.rs.form
  have b1 : w.cell? ⟨bb, 1, none⟩ = some (.slice A row.length c) := h.blk.cell 1
  have P1 := Lib.hid h.rs.sl
  have N1 := Lib.hid h.rs.hnone
  have O1 := Lib.hid (own_mt w 3 1)
  have B0 : Below w.heap.size w (w.alloc (.cells #[] 3)) := (Below.refl _ w).alloc (Nat.le_refl _) _
  have bl := h.blk.lt
  clear h
  go_enter Try.func83, Try.ntmps83
  go_wp2_with (at_builtin; first
    | (refine wpList_append_C num1_len _ rfl (.tmp 4) (.tmp 6) 22 rfl w.heap.size 3 i0 _ 8 Try.underlying22 hi0 hz0 hz1 hz2 rfl (by omega) _ 0 [] rfl O1.out _ row rfl (P1.out.below B0) N1.out (by intro a; simp [num1, Value.oneCell']) (by unfold maxLen; omega) (by omega) B0.size ?_
       intro v1 w1 o1 g1
       have B1 : Below w.heap.size w w1 := B0.grown g1 B0.size (fun g hg => (O1.out.lt g hg).1)
       have z1 := B1.size)
    | (refine wpList_append_own _ rfl (.tmp 7) (.tmp 9) 22 rfl w.heap.size 3 i0 _ 1 8 Try.underlying22 hi0 hz0 hz1 hz2 rfl (by omega) v1 (0 + row.length) _ rfl (o1.alloc _) ⟨w1.heap.size, 0, none⟩ 1 1 [.int .i64 n] rfl rfl (news1 ((Blk.new w1 #[.int .i64 n] 3).cell 0)) (by simp [Value.oneCell']) (by unfold maxLen; omega) (by omega) (by simp; omega) ?_
       intro v2 w2 o2 g2 _
       have B2 : Below w.heap.size w w2 := (B1.alloc z1 _).grown g2 (by simp; omega) (fun g hg => (o1.lt g hg).1)))
  go_ret
  refine ⟨v2, rfl, ?_, B2⟩
  rw [num1_flat] at o2
  rw [show (row ++ [n]).length = 0 + row.length + 1 by simp, List.map_append]
  exact o2
theorem own_lit1 (w : World) (n : Int) : (w.alloc (.cells #[.int .i64 n] 3)).ownsRow w.heap.size 3 1 (.slice (some ⟨w.heap.size, 0, none⟩) 1 1) 1 [.int .i64 n] :=
  ⟨by simp, .inr ⟨w.heap.size, 1, #[.int .i64 n], rfl, Nat.le_refl _, by show (w.heap.push _)[w.heap.size]? = _; rw [Array.getElem?_push, if_pos rfl], Nat.le_refl _, by unfold maxLen; omega, by simp, by simp⟩⟩
set_option maxRecDepth 100000 in
set_option maxHeartbeats 1600000 in
theorem front_calls (bb : Nat) (vv rv : Value) (vals row : List Int) (n : Int) (w : World) (h : LZ w bb vv rv vals row) (hn : row.length ≤ 100000000000) :
    Calls Try.prog 84 #[.int .i64 n, .pointer (some ⟨bb, 0, none⟩)] w (Row1 w (n :: row)) := by
  obtain ⟨i0, hi0, hz0, hz1, hz2⟩ := info_parts Try.infoInt
  obtain ⟨A, c, rfl⟩ := h.rs.form
  have b1 : w.cell? ⟨bb, 1, none⟩ = some (.slice A row.length c) := h.blk.cell 1
  have P1 := Lib.hid h.rs.sl
  have N1 := Lib.hid h.rs.hnone
  have O1 := Lib.hid (own_lit1 w n)
  have B0 : Below w.heap.size w (w.alloc (.cells #[.int .i64 n] 3)) := (Below.refl _ w).alloc (Nat.le_refl _) _
  have bl := h.blk.lt
  clear h
  go_enter Try.func84, Try.ntmps84
  go_wp2_with (at_builtin; (refine wpList_append_C num1_len _ rfl (.tmp 5) (.tmp 7) 22 rfl w.heap.size 3 i0 _ 8 Try.underlying22 hi0 hz0 hz1 hz2 rfl (by omega) _ 1 [.int .i64 n] rfl O1.out _ row rfl (P1.out.below B0) N1.out (by intro a; simp [num1, Value.oneCell']) (by unfold maxLen; omega) (by omega) B0.size ?_; intro v1 w1 o1 g1; have B1 : Below w.heap.size w w1 := B0.grown g1 B0.size (fun g hg => (O1.out.lt g hg).1)))
  go_ret
  refine ⟨v1, rfl, ?_, B1⟩
  rw [num1_flat] at o1
  rw [show (n :: row).length = 1 + row.length by simp; omega]
  exact o1
end Go.Proofs.Ytinajjceojfflaa.Kp
