/- impl.heapDo, impl.HeapRun. -/
import Derived.Test.YtinajjceojfflaaHeap3
namespace Go.Proofs.Ytinajjceojfflaa
open Go.RowKit HeapP
attribute [local go_sem ↓] Go.wp_at_zero Go.wp_at_succ

/-- a step of a script. -/
structure StepD where
  on : Int
  act : Int
  key : Int
  val : Int
def stepCell (a : StepD) : List Value := [.int .i64 a.on, .int .i64 a.act, .int .i64 a.key, .int .i64 a.val]
theorem stepCell_len (a : StepD) : (stepCell a).length = 4 := rfl
/-- what a step tells: a number, and whether there is one. -/
def seenCell (p : Int × Bool) : List Value := [.int .i64 p.1, .bool p.2, .slice none 0 0, .slice none 0 0]
theorem seenCell_len (p : Int × Bool) : (seenCell p).length = 4 := rfl
def stepH (ts : List Int) (a : StepD) (xs : List Int) : List Int × (Int × Bool) :=
  if a.act = 0 then (pushP ts xs a.key, (0, false))
  else if a.act = 1 then (if xs = [] then xs else popP ts xs, peekP xs)
  else if a.act = 2 then (xs, peekP xs)
  else if a.act = 3 then (xs, ((xs.length : Int), false))
  else (xs, (0, false))
def runH (ts : List Int) : List Int → List StepD → List Int × List (Int × Bool)
  | xs, [] => (xs, [])
  | xs, a :: l => let s := stepH ts a xs; let r := runH ts s.1 l; (r.1, s.2 :: r.2)
theorem runH_snoc (ts : List Int) (a : StepD) : ∀ (l : List StepD) (xs : List Int), runH ts xs (l ++ [a]) = ((stepH ts a (runH ts xs l).1).1, (runH ts xs l).2 ++ [(stepH ts a (runH ts xs l).1).2])
  | [], _ => rfl
  | b :: l, xs => by simp only [List.cons_append, runH, runH_snoc ts a l]
theorem runH_len (ts : List Int) : ∀ (l : List StepD) (xs : List Int), (runH ts xs l).2.length = l.length
  | [], _ => rfl
  | a :: l, xs => by simp [runH, runH_len ts l]
theorem popP_len (ts xs : List Int) : (popP ts xs).length = xs.length - 1 := by unfold popP; rw [downP_len]; simp
theorem stepH_len (ts : List Int) (a : StepD) (xs : List Int) : (stepH ts a xs).1.length ≤ xs.length + 1 := by
  unfold stepH
  split
  · simp only [pushP_len]; omega
  · split
    · simp only
      split
      · omega
      · rw [popP_len]; omega
    · repeat' split
      all_goals (simp only; omega)
theorem runH_size (ts : List Int) : ∀ (l : List StepD) (xs : List Int), (runH ts xs l).1.length ≤ xs.length + l.length
  | [], _ => by simp [runH]
  | a :: l, xs => by
    have h1 := runH_size ts l (stepH ts a xs).1
    have h2 := stepH_len ts a xs
    simp only [runH, List.length_cons]
    omega
theorem Try.infoSeen : (Try.prog.info? 31).map (fun i => (i.zero, i.size, i.bytes)) = some (some (.agg #[.int .i64 0, .bool false, .slice none 0 0, .slice none 0 0]), 4, 64) := by kernel_rfl
theorem results_cell {fn : Func} {t : Tmp} {ty : TypeId} (h : fn.results = #[.cell t ty]) (tmps : Array Value) (P : Program) (w : World) {b : Addr} {v : Value} (hp : tmps.getD t undef = .pointer (some b)) (hl : (loadVar ty b).run P w = .ok v w) :
    (results fn tmps).run P w = .ok v w := by
  have hp' : tmps[t]?.getD undef = .pointer (some b) := by simpa using hp
  simp [results, h, asAddr, hp', hl]
theorem HeapR.fr {ts : List Int} {f : Value} {B hb : Nat} {w w' : World} {g cap : Nat} {xs : List Int} (h : HeapR ts f B hb w g cap xs) {S : List Nat} (hf : Fr S w w') (h1 : hb ∉ S) (h2 : g ∉ S) (h3 : ∀ x ∈ S, B ≤ x) : HeapR ts f B hb w' g cap xs :=
  ⟨h.blk.fr hf h1, h.own.fr hf h2, h.less.fr hf h3 (by have := h.blk.lt; have := h.le; omega), h.le⟩
/-- a heap stays where blocks of another kind are written. -/
theorem HeapI.fr {ts : List Int} {f : Value} {B hb : Nat} {w w' : World} {xs : List Int} (h : HeapI ts f B hb w xs) {S : List Nat} (hf : Fr S w w') (hS : ∀ x ∈ S, B ≤ x ∧ ((∃ cs T, Blk w x cs T ∧ T ≠ 3 ∧ T ≠ 101) ∨ w.heap.size ≤ x)) : HeapI ts f B hb w' xs := by
  obtain ⟨g, cap, hR⟩ := h
  refine ⟨g, cap, hR.fr hf (fun hx => ?_) (fun hx => ?_) (fun x hx => (hS x hx).1)⟩
  · rcases (hS _ hx).2 with ⟨cs, T, hb1, _, hT⟩ | hle
    · have h1 := hR.blk
      unfold Blk at h1 hb1
      rw [h1] at hb1
      simp at hb1
      exact hT hb1.2.symm
    · have := hR.blk.lt; omega
  · obtain ⟨cur, h2, _⟩ := hR.own.blk
    rcases (hS _ hx).2 with ⟨cs, T, hb1, hT, _⟩ | hle
    · unfold Blk at h2 hb1
      rw [h2] at hb1
      simp at hb1
      exact hT hb1.2.symm
    · have := h2.lt; omega
theorem HeapI.below {ts : List Int} {f : Value} {B hb : Nat} {w w' : World} {xs : List Int} (h : HeapI ts f B hb w xs) (hb1 : Below w.heap.size w w') : HeapI ts f B hb w' xs := h.fr (S := []) (Fr.of_below hb1) (by simp)
/-- three blocks of one's own: the step, what is told, and once more. -/
theorem three_new (w : World) (c0 c1 c2 : Array Value) (T0 T1 T2 : TypeId) : let W := ((w.alloc (.cells c0 T0)).alloc (.cells c1 T1)).alloc (.cells c2 T2)
    Blk W w.heap.size c0 T0 ∧ Blk W (w.heap.size + 1) c1 T1 ∧ Blk W (w.heap.size + 1 + 1) c2 T2 ∧ Below w.heap.size w W ∧ W.heap.size = w.heap.size + 1 + 1 + 1 := by
  have e1 : (w.alloc (Obj.cells c0 T0)).heap.size = w.heap.size + 1 := by simp
  have e2 : ((w.alloc (Obj.cells c0 T0)).alloc (Obj.cells c1 T1)).heap.size = w.heap.size + 1 + 1 := by simp
  refine ⟨((Blk.new w c0 T0).alloc _).alloc _, ?_, ?_, (((Below.refl _ w).alloc (Nat.le_refl _) _).alloc (by simp) _).alloc (by simp; omega) _, by simp⟩
  · rw [← e1]; exact (Blk.new _ c1 T1).alloc _
  · rw [← e2]; exact Blk.new _ c2 T2
/-- what is left of heapDo behind the call: what is told is laid into two blocks, new since w. -/
theorem do_end {ts : List Int} {f : Value} {B hb s1 s2 : Nat} {w W w1 w2 : World} {ys : List Int} (hB : B ≤ w.heap.size) (hW : Below w.heap.size w W) (h1 : HeapI ts f B hb w1 ys) (hb1 : Below B W w1) (hk : Kp W w1)
    (hs1 : w.heap.size ≤ s1) (hs2 : w.heap.size ≤ s2) {c1 c2 : Array Value} (m1 : Blk w1 s1 c1 31) (m2 : Blk w1 s2 c2 31) (hf : Fr [s1, s2] w1 w2) : HeapI ts f B hb w2 ys ∧ Below B w w2 ∧ Kp w w2 := by
  refine ⟨h1.fr hf ?_, (hW.mono hB).trans (hb1.trans (hf.below ?_ ?_)), ⟨Nat.le_trans hW.size (Nat.le_trans hk.size hf.size), fun b cs T hb0 t1 t2 => ?_⟩⟩
  · intro x hx
    simp at hx
    rcases hx with rfl | rfl
    · exact ⟨by omega, .inl ⟨_, _, m1, by decide, by decide⟩⟩
    · exact ⟨by omega, .inl ⟨_, _, m2, by decide, by decide⟩⟩
  · intro x hx
    simp at hx
    omega
  · have := hW.size
    have := hk.size
    omega
  · have hl := hb0.lt
    exact (hk.block b cs T (hb0.below hW hl) t1 t2).fr hf (by simp; omega)
theorem seen_load {w : World} {s : Nat} {a b c d : Value} (h : Blk w s #[a, b, c, d] 31) : (loadVar 31 ⟨s, 0, none⟩).run Try.prog w = .ok (.agg #[a, b, c, d]) w := by
  have c0 : w.cell? ⟨s, 0, none⟩ = some a := h.cell 0
  have c1 : w.cell? ⟨s, 1, none⟩ = some b := h.cell 1
  have c2 : w.cell? ⟨s, 2, none⟩ = some c := h.cell 2
  have c3 : w.cell? ⟨s, 3, none⟩ = some d := h.cell 3
  clear h
  go_simp
theorem fin_cells {w1 : World} {s : Nat} {a b c d : Value} (m : Blk w1 s #[a, b, c, d] 31) (v0 v1 v2 v3 : Value) :
    Blk ((((w1.setCell ⟨s, 0, none⟩ v0).setCell ⟨s, 1, none⟩ v1).setCell ⟨s, 2, none⟩ v2).setCell ⟨s, 3, none⟩ v3) s #[v0, v1, v2, v3] 31 ∧ Fr [s] w1 ((((w1.setCell ⟨s, 0, none⟩ v0).setCell ⟨s, 1, none⟩ v1).setCell ⟨s, 2, none⟩ v2).setCell ⟨s, 3, none⟩ v3) :=
  ⟨(((m.set 0 v0).set 1 v1).set 2 v2).set 3 v3, (((Fr.setCell w1 s 0 v0 (by simp)).comp (Fr.setCell _ s 1 v1 (by simp))).comp (Fr.setCell _ s 2 v2 (by simp))).comp (Fr.setCell _ s 3 v3 (by simp))⟩
set_option maxRecDepth 100000 in
set_option maxHeartbeats 3200000 in
theorem heapDo_calls {ts : List Int} {f : Value} {B hb : Nat} {xs : List Int} (a : StepD) (w : World) (h : HeapI ts f B hb w xs) (hB : B ≤ w.heap.size) (hn : xs.length ≤ 100000000000) :
    Calls Try.prog 30 #[.pointer (some ⟨hb, 0, none⟩), .agg (stepCell a).toArray] w fun e w' => e = .returned (.agg (seenCell (stepH ts a xs).2).toArray) ∧ HeapI ts f B hb w' (stepH ts a xs).1 ∧ Below B w w' ∧ Kp w w' := by
  obtain ⟨on, act, key, val⟩ := a
  have HH := Lib.hid h
  clear h
  have dd : act = 0 ∨ act = 1 ∨ act = 2 ∨ act = 3 ∨ ((act == 0) = false ∧ (act == 1) = false ∧ (act == 2) = false ∧ (act == 3) = false) := by
    simp only [beq_eq_false_iff_ne]; omega
  have F := three_new w #[.int .i64 on, .int .i64 act, .int .i64 key, .int .i64 val] #[.int .i64 0, .bool false, .slice none 0 0, .slice none 0 0] #[.int .i64 0, .bool false, .slice none 0 0, .slice none 0 0] 28 31 31
  rcases dd with rfl | rfl | rfl | rfl | ⟨e0, e1, e2, e3⟩
  · show Calls _ _ #[_, .agg #[.int .i64 on, .int .i64 0, .int .i64 key, .int .i64 val]] _ _
    have ET := Lib.hid (show stepH ts ⟨on, 0, key, val⟩ xs = (pushP ts xs key, (0, false)) from rfl)
    go_enter Try.func30, Try.ntmps30
    go_wp2_with fail
    generalize ((w.alloc (Obj.cells #[.int .i64 on, .int .i64 0, .int .i64 key, .int .i64 val] 28)).alloc (Obj.cells #[.int .i64 0, .bool false, .slice none 0 0, .slice none 0 0] 31)).alloc (Obj.cells #[.int .i64 0, .bool false, .slice none 0 0, .slice none 0 0] 31) = W at *
    obtain ⟨g, cap, hR⟩ := HH.out.below F.2.2.2.1
    refine (push_calls key W hR hn).mono ?_
    rintro e w1 ⟨rfl, h1, hb1, hk1⟩
    have hWb := F.2.2.2.1
    have m1 := hk1.block _ _ _ F.2.1 (by decide) (by decide)
    have m2 := hk1.block _ _ _ F.2.2.1 (by decide) (by decide)
    have y0 : w1.cell? ⟨w.heap.size + 1 + 1, 0, none⟩ = some (.int .i64 0) := m2.cell 0
    have y1 : w1.cell? ⟨w.heap.size + 1 + 1, 1, none⟩ = some (.bool false) := m2.cell 1
    have y2 : w1.cell? ⟨w.heap.size + 1 + 1, 2, none⟩ = some (.slice none 0 0) := m2.cell 2
    have y3 : w1.cell? ⟨w.heap.size + 1 + 1, 3, none⟩ = some (.slice none 0 0) := m2.cell 3
    have z0 : w1.cell? ⟨w.heap.size + 1, 0, none⟩ = some (.int .i64 0) := m1.cell 0
    have z1 : w1.cell? ⟨w.heap.size + 1, 1, none⟩ = some (.bool false) := m1.cell 1
    have z2 : w1.cell? ⟨w.heap.size + 1, 2, none⟩ = some (.slice none 0 0) := m1.cell 2
    have z3 : w1.cell? ⟨w.heap.size + 1, 3, none⟩ = some (.slice none 0 0) := m1.cell 3
    have fz1 := m1.frozen
    have fz2 := m2.frozen
    go_wp2_with fail
    obtain ⟨m3, f3⟩ := fin_cells m1 (.int .i64 0) (.bool false) (.slice none 0 0) (.slice none 0 0)
    refine bodyPost_ret (results_cell rfl _ _ _ rfl (seen_load m3)) rfl ?_
    rw [ET.out]
    exact ⟨rfl, do_end hB hWb h1 hb1 hk1 (by omega) (by omega) m1 m2 (f3.trans (Fr.refl [] _) (by simp) (by simp))⟩
  · show Calls _ _ #[_, .agg #[.int .i64 on, .int .i64 1, .int .i64 key, .int .i64 val]] _ _
    have ET := Lib.hid (show stepH ts ⟨on, 1, key, val⟩ xs = (if xs = [] then xs else popP ts xs, peekP xs) from rfl)
    go_enter Try.func30, Try.ntmps30
    go_wp2_with fail
    generalize ((w.alloc (Obj.cells #[.int .i64 on, .int .i64 1, .int .i64 key, .int .i64 val] 28)).alloc (Obj.cells #[.int .i64 0, .bool false, .slice none 0 0, .slice none 0 0] 31)).alloc (Obj.cells #[.int .i64 0, .bool false, .slice none 0 0, .slice none 0 0] 31) = W at *
    obtain ⟨g, cap, hR⟩ := HH.out.below F.2.2.2.1
    refine (pop_calls W hR hn).mono ?_
    rintro e w1 ⟨rfl, h1, hb1, hk1⟩
    have hWb := F.2.2.2.1
    have m1 := hk1.block _ _ _ F.2.1 (by decide) (by decide)
    have m2 := hk1.block _ _ _ F.2.2.1 (by decide) (by decide)
    have y0 : w1.cell? ⟨w.heap.size + 1 + 1, 0, none⟩ = some (.int .i64 0) := m2.cell 0
    have y1 : w1.cell? ⟨w.heap.size + 1 + 1, 1, none⟩ = some (.bool false) := m2.cell 1
    have y2 : w1.cell? ⟨w.heap.size + 1 + 1, 2, none⟩ = some (.slice none 0 0) := m2.cell 2
    have y3 : w1.cell? ⟨w.heap.size + 1 + 1, 3, none⟩ = some (.slice none 0 0) := m2.cell 3
    have z0 : w1.cell? ⟨w.heap.size + 1, 0, none⟩ = some (.int .i64 0) := m1.cell 0
    have z1 : w1.cell? ⟨w.heap.size + 1, 1, none⟩ = some (.bool false) := m1.cell 1
    have z2 : w1.cell? ⟨w.heap.size + 1, 2, none⟩ = some (.slice none 0 0) := m1.cell 2
    have z3 : w1.cell? ⟨w.heap.size + 1, 3, none⟩ = some (.slice none 0 0) := m1.cell 3
    have fz1 := m1.frozen
    have fz2 := m2.frozen
    go_wp2_with fail
    obtain ⟨m3, f3⟩ := fin_cells (Blk.far (c := w.heap.size + 1 + 1) (i := 1) (v := .bool (peekP xs).2) (Blk.far (c := w.heap.size + 1 + 1) (i := 0) (v := .int .i64 (peekP xs).1) m1 (by omega)) (by omega)) (.int .i64 (peekP xs).1) (.bool (peekP xs).2) (.slice none 0 0) (.slice none 0 0)
    refine bodyPost_ret (results_cell rfl _ _ _ rfl (seen_load m3)) rfl ?_
    rw [ET.out]
    exact ⟨rfl, do_end hB hWb h1 hb1 hk1 (by omega) (by omega) m1 m2 (((Fr.setCell (S := [w.heap.size + 1, w.heap.size + 1 + 1]) w1 (w.heap.size + 1 + 1) 0 _ (by simp)).comp (Fr.setCell _ (w.heap.size + 1 + 1) 1 _ (by simp))).trans f3 (by simp) (by simp))⟩
  · show Calls _ _ #[_, .agg #[.int .i64 on, .int .i64 2, .int .i64 key, .int .i64 val]] _ _
    have ET := Lib.hid (show stepH ts ⟨on, 2, key, val⟩ xs = (xs, peekP xs) from rfl)
    go_enter Try.func30, Try.ntmps30
    go_wp2_with fail
    generalize ((w.alloc (Obj.cells #[.int .i64 on, .int .i64 2, .int .i64 key, .int .i64 val] 28)).alloc (Obj.cells #[.int .i64 0, .bool false, .slice none 0 0, .slice none 0 0] 31)).alloc (Obj.cells #[.int .i64 0, .bool false, .slice none 0 0, .slice none 0 0] 31) = W at *
    obtain ⟨g, cap, hR⟩ := HH.out.below F.2.2.2.1
    refine (peek_calls W hR (by omega)).mono ?_
    rintro e w1 ⟨rfl, rfl⟩
    have h1 : HeapI ts f B hb w1 xs := ⟨g, cap, hR⟩
    have hk1 := Kp.refl w1
    have hb1 := Below.refl B w1
    have hWb := F.2.2.2.1
    have m1 := hk1.block _ _ _ F.2.1 (by decide) (by decide)
    have m2 := hk1.block _ _ _ F.2.2.1 (by decide) (by decide)
    have y0 : w1.cell? ⟨w.heap.size + 1 + 1, 0, none⟩ = some (.int .i64 0) := m2.cell 0
    have y1 : w1.cell? ⟨w.heap.size + 1 + 1, 1, none⟩ = some (.bool false) := m2.cell 1
    have y2 : w1.cell? ⟨w.heap.size + 1 + 1, 2, none⟩ = some (.slice none 0 0) := m2.cell 2
    have y3 : w1.cell? ⟨w.heap.size + 1 + 1, 3, none⟩ = some (.slice none 0 0) := m2.cell 3
    have z0 : w1.cell? ⟨w.heap.size + 1, 0, none⟩ = some (.int .i64 0) := m1.cell 0
    have z1 : w1.cell? ⟨w.heap.size + 1, 1, none⟩ = some (.bool false) := m1.cell 1
    have z2 : w1.cell? ⟨w.heap.size + 1, 2, none⟩ = some (.slice none 0 0) := m1.cell 2
    have z3 : w1.cell? ⟨w.heap.size + 1, 3, none⟩ = some (.slice none 0 0) := m1.cell 3
    have fz1 := m1.frozen
    have fz2 := m2.frozen
    go_wp2_with fail
    obtain ⟨m3, f3⟩ := fin_cells (Blk.far (c := w.heap.size + 1 + 1) (i := 1) (v := .bool (peekP xs).2) (Blk.far (c := w.heap.size + 1 + 1) (i := 0) (v := .int .i64 (peekP xs).1) m1 (by omega)) (by omega)) (.int .i64 (peekP xs).1) (.bool (peekP xs).2) (.slice none 0 0) (.slice none 0 0)
    refine bodyPost_ret (results_cell rfl _ _ _ rfl (seen_load m3)) rfl ?_
    rw [ET.out]
    exact ⟨rfl, do_end hB hWb h1 hb1 hk1 (by omega) (by omega) m1 m2 (((Fr.setCell (S := [w.heap.size + 1, w.heap.size + 1 + 1]) w1 (w.heap.size + 1 + 1) 0 _ (by simp)).comp (Fr.setCell _ (w.heap.size + 1 + 1) 1 _ (by simp))).trans f3 (by simp) (by simp))⟩
  · show Calls _ _ #[_, .agg #[.int .i64 on, .int .i64 3, .int .i64 key, .int .i64 val]] _ _
    have ET := Lib.hid (show stepH ts ⟨on, 3, key, val⟩ xs = (xs, ((xs.length : Int), false)) from rfl)
    go_enter Try.func30, Try.ntmps30
    go_wp2_with fail
    generalize ((w.alloc (Obj.cells #[.int .i64 on, .int .i64 3, .int .i64 key, .int .i64 val] 28)).alloc (Obj.cells #[.int .i64 0, .bool false, .slice none 0 0, .slice none 0 0] 31)).alloc (Obj.cells #[.int .i64 0, .bool false, .slice none 0 0, .slice none 0 0] 31) = W at *
    obtain ⟨g, cap, hR⟩ := HH.out.below F.2.2.2.1
    refine (heapSize_calls W hR).mono ?_
    rintro e w1 ⟨rfl, rfl⟩
    have h1 : HeapI ts f B hb w1 xs := ⟨g, cap, hR⟩
    have hk1 := Kp.refl w1
    have hb1 := Below.refl B w1
    have hWb := F.2.2.2.1
    have m1 := hk1.block _ _ _ F.2.1 (by decide) (by decide)
    have m2 := hk1.block _ _ _ F.2.2.1 (by decide) (by decide)
    have y0 : w1.cell? ⟨w.heap.size + 1 + 1, 0, none⟩ = some (.int .i64 0) := m2.cell 0
    have y1 : w1.cell? ⟨w.heap.size + 1 + 1, 1, none⟩ = some (.bool false) := m2.cell 1
    have y2 : w1.cell? ⟨w.heap.size + 1 + 1, 2, none⟩ = some (.slice none 0 0) := m2.cell 2
    have y3 : w1.cell? ⟨w.heap.size + 1 + 1, 3, none⟩ = some (.slice none 0 0) := m2.cell 3
    have z0 : w1.cell? ⟨w.heap.size + 1, 0, none⟩ = some (.int .i64 0) := m1.cell 0
    have z1 : w1.cell? ⟨w.heap.size + 1, 1, none⟩ = some (.bool false) := m1.cell 1
    have z2 : w1.cell? ⟨w.heap.size + 1, 2, none⟩ = some (.slice none 0 0) := m1.cell 2
    have z3 : w1.cell? ⟨w.heap.size + 1, 3, none⟩ = some (.slice none 0 0) := m1.cell 3
    have fz1 := m1.frozen
    have fz2 := m2.frozen
    go_wp2_with fail
    obtain ⟨m3, f3⟩ := fin_cells (Blk.far (c := w.heap.size + 1 + 1) (i := 0) (v := .int .i64 xs.length) m1 (by omega)) (.int .i64 xs.length) (.bool false) (.slice none 0 0) (.slice none 0 0)
    refine bodyPost_ret (results_cell rfl _ _ _ rfl (seen_load m3)) rfl ?_
    rw [ET.out]
    exact ⟨rfl, do_end hB hWb h1 hb1 hk1 (by omega) (by omega) m1 m2 ((Fr.setCell (S := [w.heap.size + 1, w.heap.size + 1 + 1]) w1 (w.heap.size + 1 + 1) 0 _ (by simp)).trans f3 (by simp) (by simp))⟩
  · show Calls _ _ #[_, .agg #[.int .i64 on, .int .i64 act, .int .i64 key, .int .i64 val]] _ _
    have ET := Lib.hid (show stepH ts ⟨on, act, key, val⟩ xs = (xs, (0, false)) by
      unfold stepH
      rw [if_neg (by simpa using e0), if_neg (by simpa using e1), if_neg (by simpa using e2), if_neg (by simpa using e3)])
    go_enter Try.func30, Try.ntmps30
    go_wp2_with fail
    refine bodyPost_ret (results_cell rfl _ _ _ rfl (seen_load F.2.1)) rfl ?_
    rw [ET.out]
    exact ⟨rfl, HH.out.below F.2.2.2.1, F.2.2.2.1.mono hB, Kp.below F.2.2.2.1⟩
theorem own_weaken {w : World} {B B' : Nat} {e : TypeId} {s n : Nat} {v : Value} {xs : List Value} (h : w.ownsRow B' e s v n xs) (hB : B ≤ B') : w.ownsRow B e s v n xs := by
  refine ⟨h.1, h.2.imp id ?_⟩
  rintro ⟨g, cap, cur, e1, e2, e3⟩
  exact ⟨g, cap, cur, e1, Nat.le_trans hB e2, e3⟩
/-- a step that changes the tree. -/
theorem HeapI.grown {ts : List Int} {f : Value} {B hb s n : Nat} {W w' : World} {xs : List Int} {v : Value} {cs : List Value} (h : HeapI ts f B hb W xs) (hg : W.grownBy w' v.ownBlock) (ho : W.ownsRow B 31 s v n cs) : HeapI ts f B hb w' xs := by
  refine h.fr (S := v.ownBlock.toList) ⟨hg.os, hg.tape, hg.output, hg.size, fun k hk hn => hg.block k hk (fun e => hn (by rw [← e]; simp))⟩ ?_
  intro x hx
  have e : v.ownBlock = some x := by simpa using hx
  rcases ho.2 with ⟨e1, _⟩ | ⟨g, cap, cur, e1, h1, h2, _⟩
  · rw [e1] at e; cases e
  · rw [e1] at e
    cases e
    exact ⟨h1, .inl ⟨cur, _, h2, by decide, by decide⟩⟩
theorem own_kp {w w' : World} (h : Kp w w') {B s n : Nat} {v : Value} {xs : List Value} (ho : w.ownsRow B 31 s v n xs) : w'.ownsRow B 31 s v n xs := by
  refine ⟨ho.1, ho.2.imp id ?_⟩
  rintro ⟨g, cap, cur, a1, a2, a3, a4⟩
  exact ⟨g, cap, cur, a1, a2, h.block g cur _ a3 (by decide) (by decide), a4⟩
theorem news_blk {W : World} {b : Nat} {cs : List Value} {T : TypeId} (h : Blk W b cs.toArray T) : ∀ j u, cs[j]? = some u → W.cell? ((⟨b, 0, none⟩ : Addr).add j) = some u := by
  intro j u hj
  have := h.cell j
  rw [show (⟨b, 0, none⟩ : Addr).add j = ⟨b, j, none⟩ by unfold Addr.add; split <;> simp_all, this]
  simpa using hj
set_option maxRecDepth 100000 in
set_option maxHeartbeats 3200000 in
theorem heapRun_calls (ts : List Int) (tv fv lv : Value) (how : Int) (first : List Int) (l : List StepD) (w : World) (ht : SlR w w.heap.size tv (ts.map i64v)) (hfi : SlI w w.heap.size fv first) (hnone : ∀ m c, fv = .slice none m c → m = 0 ∧ c = 0) (hl : SlC 4 stepCell w w.heap.size lv l) (hn : first.length ≤ 10000000000) (hln : l.length ≤ 10000000000) :
    Calls Try.prog 11 #[tv, .int .i64 how, fv, lv] w fun e w' => ∃ v', e = .returned v' ∧ w'.ownsRow w.heap.size 31 4 v' l.length ((runH ts (heapOfP ts how first) l).2.flatMap seenCell) ∧ Below w.heap.size w w' := by
  obtain ⟨i0, hi0, hz0, hz1, hz2⟩ := info_parts Try.infoSeen
  obtain ⟨A, c, rfl⟩ := ht.form
  obtain ⟨A2, c2, rfl⟩ := hfi.form
  obtain ⟨A3, c3, rfl⟩ := hl.form
  rw [List.length_map] at *
  have HO := Lib.hid (heapOf_calls ts _ _ how first w ht hfi hnone hn)
  have HL := Lib.hid hl
  clear ht hfi hnone hl
  have hpl : (heapOfP ts how first).length = first.length := by
    unfold heapOfP; split
    · rw [foldl_push_len]; simp
    · rw [fromP_len]
  go_enter Try.func11, Try.ntmps11
  go_wp2_with fail
  refine HO.out.mono ?_
  rintro e w1 ⟨hb, f, B, rfl, h1, hB1, hB2, hb1⟩
  have H1 := Lib.hid h1
  clear h1 HO
  go_wp2_with fail
  go_loopw [10, 19] (fun v i wr => ∃ k : Nat, k ≤ l.length ∧ i = .int .i64 k ∧ Hid (HeapI ts f B hb wr (runH ts (heapOfP ts how first) (l.take k)).1 ∧ wr.ownsRow B 31 4 v k ((runH ts (heapOfP ts how first) (l.take k)).2.flatMap seenCell) ∧ Below B w1 wr)) (fun _ i _ => l.length - (intOf i).toNat)
  case atStart => exact ⟨0, Nat.zero_le _, rfl, ⟨H1.out, World.ownsRow_nil _ _ _ _, Below.refl _ _⟩⟩
  case round =>
    obtain ⟨k, hk, rfl, HK⟩ := hrel
    by_cases hlt : k < l.length
    · obtain ⟨b, off, a, rfl, g1, g3, g4, g5, z⟩ := HL.out.at_ hlt
      obtain ⟨on, act, key, val⟩ := a
      have hw : Below w.heap.size w wr := hb1.trans (HK.out.2.2.mono hB1)
      have q0 := (hw.cell (p := ⟨b, off + k * 4, none⟩) g3).trans (z 0 _ rfl)
      have q1 := (hw.cell (p := ⟨b, off + k * 4 + 1, none⟩) g3).trans (z 1 _ rfl)
      have q2 := (hw.cell (p := ⟨b, off + k * 4 + 2, none⟩) g3).trans (z 2 _ rfl)
      have q3 := (hw.cell (p := ⟨b, off + k * 4 + 3, none⟩) g3).trans (z 3 _ rfl)
      have HA := Lib.hid g5
      have hle := HK.out.2.2.size
      have hsz : (runH ts (heapOfP ts how first) (l.take k)).1.length ≤ 100000000000 := by
        have := runH_size ts (l.take k) (heapOfP ts how first)
        rw [List.length_take] at this
        omega
      have HD := Lib.hid (heapDo_calls ⟨on, act, key, val⟩ (wr.alloc (Obj.cells #[.int .i64 on, .int .i64 act, .int .i64 key, .int .i64 val] 28)) (HK.out.1.below ((Below.refl _ wr).alloc (Nat.le_refl _) _)) (by simp; omega) hsz)
      clear g5 z hw hsz
      go_wp2_with fail
      refine HD.out.mono ?_
      rintro e w2 ⟨rfl, h2, hb2, hk2⟩
      have hown := own_kp hk2 (HK.out.2.1.alloc (Obj.cells #[.int .i64 on, .int .i64 act, .int .i64 key, .int .i64 val] 28))
      have hb3 : Below B w1 w2 := (HK.out.2.2.alloc (by omega) _).trans hb2
      have H2 := Lib.hid (And.intro h2 hb3)
      have hle2 := hb3.size
      clear h2 hb2 hk2 hb3
      obtain ⟨⟨n, ok⟩, hp⟩ : ∃ p, (stepH ts ⟨on, act, key, val⟩ (runH ts (heapOfP ts how first) (l.take k)).1).2 = p := ⟨_, rfl⟩
      rw [hp]
      have HP := Lib.hid hp
      clear hp
      simp only [seenCell]
      go_wp2_with (at_builtin; refine wpList_append_own _ rfl (.tmp 23) (.tmp 27) 25 rfl B 31 i0 _ 4 64 Try.underlying25 hi0 hz0 hz1 hz2 rfl (by omega) _ k _ rfl (hown.alloc _) ⟨w2.heap.size, 0, none⟩ 1 1 _ rfl rfl (news_blk (Blk.new w2 _ _)) (by simp [Value.oneCell']) (by unfold maxLen; omega) (by omega) (by simp; omega) ?_; intro v' w3 hown' hgrow _)
      have hr : runH ts (heapOfP ts how first) (l.take (k + 1)) = ((stepH ts ⟨on, act, key, val⟩ (runH ts (heapOfP ts how first) (l.take k)).1).1, (runH ts (heapOfP ts how first) (l.take k)).2 ++ [(n, ok)]) := by
        have hg := (List.getElem?_eq_some_iff.1 HA.out).2
        rw [List.take_succ_eq_append_getElem hlt, hg, runH_snoc, HP.out]
      refine ⟨⟨k + 1, by omega, by go_num, ?_⟩, by simp [intOf]; omega⟩
      rw [hr]
      refine ⟨(H2.out.1.below ((Below.refl _ w2).alloc (Nat.le_refl _) _)).grown hgrow (hown.alloc _), ?_, ?_⟩
      · rw [flat_snoc]; exact hown'
      · exact (H2.out.2.alloc (by omega) _).grown hgrow (by simp; omega) (fun g hg => (hown.lt g hg).1)
    · have : k = l.length := by omega
      subst this
      go_wp2_with fail
      go_ret
      have h := HK.out
      rw [List.take_length] at h
      exact ⟨_, rfl, own_weaken h.2.1 hB1, hb1.trans (h.2.2.mono hB1)⟩
end Go.Proofs.Ytinajjceojfflaa
