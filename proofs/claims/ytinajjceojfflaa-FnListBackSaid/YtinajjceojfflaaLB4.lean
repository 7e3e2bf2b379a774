/- (*impl.ring).node. -/
import Derived.Test.YtinajjceojfflaaLB3
import Derived.Deep.QuietTactic
import Derived.BigQuiet
namespace Go.Proofs.Ytinajjceojfflaa
open Go.RowKit

/-- three blocks of one's own: the step, what is told, and once more. -/
theorem three_new (w : World) (c0 c1 c2 : Array Value) (T0 T1 T2 : TypeId) : let W := ((w.alloc (.cells c0 T0)).alloc (.cells c1 T1)).alloc (.cells c2 T2)
    Blk W w.heap.size c0 T0 ∧ Blk W (w.heap.size + 1) c1 T1 ∧ Blk W (w.heap.size + 1 + 1) c2 T2 ∧ Below w.heap.size w W ∧ W.heap.size = w.heap.size + 1 + 1 + 1 := by
  have e1 : (w.alloc (Obj.cells c0 T0)).heap.size = w.heap.size + 1 := by simp
  have e2 : ((w.alloc (Obj.cells c0 T0)).alloc (Obj.cells c1 T1)).heap.size = w.heap.size + 1 + 1 := by simp
  refine ⟨((Blk.new w c0 T0).alloc _).alloc _, ?_, ?_, (((Below.refl _ w).alloc (Nat.le_refl _) _).alloc (by simp) _).alloc (by simp; omega) _, by simp⟩
  · rw [← e1]; exact (Blk.new _ c1 T1).alloc _
  · rw [← e2]; exact Blk.new _ c2 T2
theorem results_cell {fn : Func} {t : Tmp} {ty : TypeId} (h : fn.results = #[.cell t ty]) (tmps : Array Value) (P : Program) (w : World) {b : Addr} {v : Value} (hp : tmps.getD t undef = .pointer (some b)) (hl : (loadVar ty b).run P w = .ok v w) :
    (results fn tmps).run P w = .ok v w := by
  have hp' : tmps[t]?.getD undef = .pointer (some b) := by simpa using hp
  simp [results, h, asAddr, hp', hl]
theorem seen_load {w : World} {s : Nat} {a b c d : Value} (h : Blk w s #[a, b, c, d] 31) : (loadVar 31 ⟨s, 0, none⟩).run Try.prog w = .ok (.agg #[a, b, c, d]) w := by
  have c0 : w.cell? ⟨s, 0, none⟩ = some a := h.cell 0
  have c1 : w.cell? ⟨s, 1, none⟩ = some b := h.cell 1
  have c2 : w.cell? ⟨s, 2, none⟩ = some c := h.cell 2
  have c3 : w.cell? ⟨s, 3, none⟩ = some d := h.cell 3
  clear h
  go_simp
theorem fin_cells {w1 : World} {s : Nat} {a b c d : Value} (m : Blk w1 s #[a, b, c, d] 31) (v0 v1 v2 v3 : Value) :
    Blk ((((w1.setCell ⟨s, 0, none⟩ v0).setCell ⟨s, 1, none⟩ v1).setCell ⟨s, 2, none⟩ v2).setCell ⟨s, 3, none⟩ v3) s #[v0, v1, v2, v3] 31 ∧ Fr [s] w1 ((((w1.setCell ⟨s, 0, none⟩ v0).setCell ⟨s, 1, none⟩ v1).setCell ⟨s, 2, none⟩ v2).setCell ⟨s, 3, none⟩ v3) :=
  ⟨(((m.set 0 v0).set 1 v1).set 2 v2).set 3 v3, (((Fr.setCell w1 s 0 v0 (by simp)).comp (Fr.setCell _ s 1 v1 (by simp))).comp (Fr.setCell _ s 2 v2 (by simp))).comp (Fr.setCell _ s 3 v3 (by simp))⟩
theorem own_at {w : World} {B n i : Nat} {T : TypeId} {v x : Value} {xs : List Value} (h : w.ownsRow B T 1 v n xs) (hi : xs[i]? = some x) : ∃ g c, v = .slice (some ⟨g, 0, none⟩) n c ∧ n ≤ c ∧ c ≤ 9223372036854775807 ∧ g < w.heap.size ∧ w.cell? ⟨g, i, none⟩ = some x := by
  have hl := (List.getElem?_eq_some_iff.1 hi).1
  rcases h.2 with ⟨_, h0⟩ | ⟨g, cap, cur, e, h1, h2, h3, h4, h5, h6⟩
  · have := h.1; omega
  · refine ⟨g, cap, e, h3, h4, (show Blk w g cur T from h2).lt, ?_⟩
    have := h.1
    rw [(show Blk w g cur T from h2).cell, ← hi, ← h6, List.getElem?_take_of_lt (by omega)]
    simp
/-- what a step does to the ring, and tells. -/
def RingO (B : Nat) (w : World) (rb lb : Nat) (ids : List (Nat × Int)) (row : List Nat) (nv : Value) (a : StepD) (e : Ending) (w' : World) : Prop :=
  ∃ ids' row' nv' ks ka kc, e = .returned (.agg #[.int .i64 0, .bool false, .slice ka ks.length kc, .slice none 0 0]) ∧ RingI B w' rb lb ids' row' nv' ids' ∧ ⟨ids'.map Prod.snd, row'⟩ = doL ⟨ids.map Prod.snd, row⟩ a ∧ keysL ⟨ids.map Prod.snd, row⟩ a ks ∧ IntSl w' (.slice ka ks.length kc) ks ∧ Fr (ringS rb lb ids nv) w w'
/-- behind the call: what is told is laid into two blocks, new since w. -/
theorem ring_end {B rb lb s1 s2 : Nat} {w W w1 w2 : World} {ids ids' : List (Nat × Int)} {row row' : List Nat} {nv nv' : Value} {a : StepD} {ks : List Int} {ka : Option Addr} {kc : Nat}
    (hW : Below w.heap.size w W) (h1 : RingI B w1 rb lb ids' row' nv' ids') (f1 : Fr (ringS rb lb ids nv) W w1) (hd : ⟨ids'.map Prod.snd, row'⟩ = doL ⟨ids.map Prod.snd, row⟩ a) (hk : keysL ⟨ids.map Prod.snd, row⟩ a ks) (hs : IntSl w1 (.slice ka ks.length kc) ks)
    (g1 : w.heap.size ≤ s1) (g2 : w.heap.size ≤ s2) {c1 c2 : Array Value} (m1 : Blk w1 s1 c1 31) (m2 : Blk w1 s2 c2 31) (hf : Fr [s1, s2] w1 w2) :
    RingO B w rb lb ids row nv a (.returned (.agg #[.int .i64 0, .bool false, .slice ka ks.length kc, .slice none 0 0])) w2 := by
  refine ⟨ids', row', nv', ks, ka, kc, rfl, h1.fr hf ?_, hd, hk, hs.keep (KeepsInts.fr hf ?_), ((Fr.of_below hW).comp f1).trans hf (fun b hb => .inl hb) ?_⟩
  · intro b hb hm
    obtain ⟨_, _, cb, T, q1, q2, _⟩ := h1.ty b hm
    simp at hb
    rcases hb with rfl | rfl
    · exact q2 (Blk.ty q1 m1)
    · exact q2 (Blk.ty q1 m2)
  · intro b hb
    simp at hb
    rcases hb with rfl | rfl
    · exact ⟨_, _, m1, by decide⟩
    · exact ⟨_, _, m2, by decide⟩
  · intro b hb
    simp at hb
    rcases hb with rfl | rfl
    · exact .inr g1
    · exact .inr g2
theorem keys_no {s : LineD} {a : StepD} (h5 : a.act ≠ 5) (h6 : a.act ≠ 6) (ks : List Int) : keysL s a ks := ⟨fun e => absurd e h5, fun e => absurd e h6⟩
/-- a node that is in the list parts it. -/
theorem row_split {ids : List (Nat × Int)} {row : List Nat} {m : Nat} (hm : m ∈ row) : ∃ A B, row = A ++ m :: B ∧ row.idxOf m = A.length ∧ cutAt row (row.idxOf m) = A ++ B ∧ row.map (pickN ids) = A.map (pickN ids) ++ ((pickN ids m).1, (pickN ids m).2) :: B.map (pickN ids) := by
  have hl := List.idxOf_lt_length_iff.2 hm
  have e : row[row.idxOf m]? = some m := by rw [List.getElem?_eq_getElem hl, List.getElem_idxOf hl]
  refine ⟨row.take (row.idxOf m), row.drop (row.idxOf m + 1), ?_, ?_, rfl, ?_⟩
  · have := List.take_append_drop (row.idxOf m) row
    rw [List.drop_eq_getElem_cons hl, List.getElem_idxOf hl] at this
    exact this.symm
  · rw [List.length_take]; omega
  · have := congrArg (List.map (pickN ids)) (List.take_append_drop (row.idxOf m) row)
    rw [List.drop_eq_getElem_cons hl, List.getElem_idxOf hl, List.map_append, List.map_cons] at this
    exact this.symm
theorem not_row {B : Nat} {w : World} {rb lb : Nat} {ids : List (Nat × Int)} {row : List Nat} {nv : Value} {held : List (Nat × Int)} (h : RingI B w rb lb ids row nv held) {m : Nat} (hm : m < ids.length) (hn : m ∉ row) : (pickN ids m).1 ∉ idsOf (row.map (pickN ids)) := by
  intro hx
  obtain ⟨p, hp, e⟩ := List.mem_map.1 hx
  obtain ⟨k, hk, rfl⟩ := List.mem_map.1 hp
  have := ids_inj h.nd (pickN_get (h.rowlt k hk)) (pickN_get hm) e
  subst this
  exact hn hk
set_option maxRecDepth 100000 in
set_option maxHeartbeats 3200000 in
theorem node2_calls {B rb lb : Nat} {ids : List (Nat × Int)} {row : List Nat} {nv : Value} (on key : Int) (m : Nat) (w : World) (h : RingI B w rb lb ids row nv ids) (hm : m < ids.length) (hl : ids.length ≤ 100000000000) (hr : row.length ≤ 100000000000) (hmay : m ∈ row) :
    Calls Try.prog 89 #[.pointer (some ⟨rb, 0, none⟩), .agg #[.int .i64 on, .int .i64 2, .int .i64 key, .int .i64 (m : Int)]] w (RingO B w rb lb ids row nv ⟨on, 2, key, m⟩) := by
  have F := three_new w #[.int .i64 on, .int .i64 2, .int .i64 key, .int .i64 m] #[.int .i64 0, .bool false, .slice none 0 0, .slice none 0 0] #[.int .i64 0, .bool false, .slice none 0 0, .slice none 0 0] 28 31 31
  have HR := Lib.hid (((h.alloc (Obj.cells #[.int .i64 on, .int .i64 2, .int .i64 key, .int .i64 m] 28)).alloc (Obj.cells #[.int .i64 0, .bool false, .slice none 0 0, .slice none 0 0] 31)).alloc (Obj.cells #[.int .i64 0, .bool false, .slice none 0 0, .slice none 0 0] 31))
  have HL := Lib.hid h
  clear h
  go_enter Try.func89, Try.ntmps89
  go_wp2_with fail
  generalize ((w.alloc (Obj.cells #[.int .i64 on, .int .i64 2, .int .i64 key, .int .i64 m] 28)).alloc (Obj.cells #[.int .i64 0, .bool false, .slice none 0 0, .slice none 0 0] 31)).alloc (Obj.cells #[.int .i64 0, .bool false, .slice none 0 0, .slice none 0 0] 31) = W at *
  have hp : (ids.map ptrN)[m]? = some (ptrN (pickN ids m)) := by rw [List.getElem?_map, pickN_get hm]; rfl
  obtain ⟨g, c, rfl, hc1, hc2, hg, pm⟩ := own_at HR.out.nodes hp
  obtain ⟨r0, r1, l0, l1, rl, ll⟩ := HR.out.cells
  have s3 : W.cell? ⟨w.heap.size, 3, none⟩ = some (.int .i64 (m : Int)) := F.1.cell 3
  have s1 : W.cell? ⟨w.heap.size, 1, none⟩ = some (.int .i64 2) := F.1.cell 1
  have sl := F.1.lt
  have FF := Lib.hid F
  clear F hp
  unfold ptrN at pm
  obtain ⟨⟨nb, nx⟩, hqq⟩ : ∃ qq, qq = pickN ids m := ⟨_, rfl⟩
  rw [← hqq] at pm
  have HQ := Lib.hid hqq.symm
  clear hqq
  go_quiet (fail)
  go_wp2_with fail
  have hD : RingI B (W.drewN nq) rb lb ids row (.slice (some ⟨g, 0, none⟩) ids.length c) ids := HR.out.fr (Fr.drewN [] W nq) (by simp)
  obtain ⟨A, Bq, eRow, eIdx, eCut, eMap⟩ := row_split (ids := ids) hmay
  rw [HQ.out] at eMap
  have hdl := hD.dl
  rw [eMap] at hdl
  refine (remove_calls lb nb nx _ _ _ hdl).mono ?_
  rintro e w1 ⟨rfl, d1, _, f1⟩
  rw [← List.map_append] at d1 f1
  obtain ⟨h1, f2⟩ := hD.re f1 (row' := A ++ Bq) (fun i hi => hD.rowlt i (by rw [eRow]; simp only [List.mem_append, List.mem_cons] at hi ⊢; rcases hi with hi | hi <;> simp [hi])) d1 (fun b hb => List.mem_cons.1 hb)
  have HE := Lib.hid (show (⟨ids.map Prod.snd, A ++ Bq⟩ : LineD) = doL ⟨ids.map Prod.snd, row⟩ ⟨on, 2, key, m⟩ by simp [doL, eCut])
  clear eRow eIdx eCut eMap hdl d1 f1
  have F := FF.out
  have hWb : Below w.heap.size w (W.drewN nq) := F.2.2.2.1.trans (Below.drewN W nq)
  have m1 : Blk w1 (w.heap.size + 1) _ _ := (F.2.1.drewN nq : Blk (W.drewN nq) _ _ _).fr f2 (fun hb => by have := (HL.out.ty _ hb).2.1; omega)
  have m2 : Blk w1 (w.heap.size + 1 + 1) _ _ := (F.2.2.1.drewN nq : Blk (W.drewN nq) _ _ _).fr f2 (fun hb => by have := (HL.out.ty _ hb).2.1; omega)
  have y0 : w1.cell? ⟨w.heap.size + 1 + 1, 0, none⟩ = some (.int .i64 0) := m2.cell 0
  have y1 : w1.cell? ⟨w.heap.size + 1 + 1, 1, none⟩ = some (.bool false) := m2.cell 1
  have y2 : w1.cell? ⟨w.heap.size + 1 + 1, 2, none⟩ = some (.slice none 0 0) := m2.cell 2
  have y3 : w1.cell? ⟨w.heap.size + 1 + 1, 3, none⟩ = some (.slice none 0 0) := m2.cell 3
  have z0 : w1.cell? ⟨w.heap.size + 1, 0, none⟩ = some (.int .i64 0) := m1.cell 0
  have z1 : w1.cell? ⟨w.heap.size + 1, 1, none⟩ = some (.bool false) := m1.cell 1
  have z2 : w1.cell? ⟨w.heap.size + 1, 2, none⟩ = some (.slice none 0 0) := m1.cell 2
  have z3 : w1.cell? ⟨w.heap.size + 1, 3, none⟩ = some (.slice none 0 0) := m1.cell 3
  have fz1 := m1.frozen
  have fz2 := m2.frozen
  have HH := Lib.hid (And.intro h1 (And.intro f2 (And.intro hWb (And.intro m1 m2))))
  clear h1 f2 hWb m1 m2 F hD
  go_wp2_with fail
  obtain ⟨h1, f2, hWb, m1, m2⟩ := HH.out
  obtain ⟨m3, f3⟩ := fin_cells m1 (.int .i64 0) (.bool false) (.slice none 0 0) (.slice none 0 0)
  refine bodyPost_ret (results_cell rfl _ _ _ rfl (seen_load m3)) rfl ?_
  exact ring_end (ks := []) hWb h1 f2 HE.out (keys_no (by simp) (by simp) _) (IntSl.nil _) (by omega) (by omega) m1 m2 (f3.trans (Fr.refl [] _) (by simp) (by simp))
set_option maxRecDepth 100000 in
set_option maxHeartbeats 3200000 in
theorem node3_calls {B rb lb : Nat} {ids : List (Nat × Int)} {row : List Nat} {nv : Value} (on key : Int) (m : Nat) (w : World) (h : RingI B w rb lb ids row nv ids) (hm : m < ids.length) (hl : ids.length ≤ 100000000000) (hr : row.length ≤ 100000000000) (hmay : m ∉ row) :
    Calls Try.prog 89 #[.pointer (some ⟨rb, 0, none⟩), .agg #[.int .i64 on, .int .i64 3, .int .i64 key, .int .i64 (m : Int)]] w (RingO B w rb lb ids row nv ⟨on, 3, key, m⟩) := by
  have F := three_new w #[.int .i64 on, .int .i64 3, .int .i64 key, .int .i64 m] #[.int .i64 0, .bool false, .slice none 0 0, .slice none 0 0] #[.int .i64 0, .bool false, .slice none 0 0, .slice none 0 0] 28 31 31
  have HR := Lib.hid (((h.alloc (Obj.cells #[.int .i64 on, .int .i64 3, .int .i64 key, .int .i64 m] 28)).alloc (Obj.cells #[.int .i64 0, .bool false, .slice none 0 0, .slice none 0 0] 31)).alloc (Obj.cells #[.int .i64 0, .bool false, .slice none 0 0, .slice none 0 0] 31))
  have HL := Lib.hid h
  clear h
  go_enter Try.func89, Try.ntmps89
  go_wp2_with fail
  generalize ((w.alloc (Obj.cells #[.int .i64 on, .int .i64 3, .int .i64 key, .int .i64 m] 28)).alloc (Obj.cells #[.int .i64 0, .bool false, .slice none 0 0, .slice none 0 0] 31)).alloc (Obj.cells #[.int .i64 0, .bool false, .slice none 0 0, .slice none 0 0] 31) = W at *
  have hp : (ids.map ptrN)[m]? = some (ptrN (pickN ids m)) := by rw [List.getElem?_map, pickN_get hm]; rfl
  obtain ⟨g, c, rfl, hc1, hc2, hg, pm⟩ := own_at HR.out.nodes hp
  obtain ⟨r0, r1, l0, l1, rl, ll⟩ := HR.out.cells
  have s3 : W.cell? ⟨w.heap.size, 3, none⟩ = some (.int .i64 (m : Int)) := F.1.cell 3
  have s1 : W.cell? ⟨w.heap.size, 1, none⟩ = some (.int .i64 3) := F.1.cell 1
  have sl := F.1.lt
  have FF := Lib.hid F
  clear F hp
  unfold ptrN at pm
  obtain ⟨⟨nb, nx⟩, hqq⟩ : ∃ qq, qq = pickN ids m := ⟨_, rfl⟩
  rw [← hqq] at pm
  have HQ := Lib.hid hqq.symm
  clear hqq
  go_quiet (fail)
  go_wp2_with fail
  have hD : RingI B (W.drewN nq) rb lb ids row (.slice (some ⟨g, 0, none⟩) ids.length c) ids := HR.out.fr (Fr.drewN [] W nq) (by simp)
  obtain ⟨p, n, hb⟩ := hD.all m _ (pickN_get hm)
  have hn := not_row hD hm hmay
  rw [HQ.out] at hb hn
  refine (backNode_calls lb nb nx p n _ _ hD.dl hb hn).mono ?_
  rintro e w1 ⟨rfl, d1, f1⟩
  have eM : row.map (pickN ids) ++ [(nb, nx)] = (row ++ [m]).map (pickN ids) := by rw [List.map_append, List.map_cons, List.map_nil, HQ.out]
  rw [eM] at d1
  obtain ⟨h1, f2⟩ := hD.re f1 (row' := row ++ [m]) (fun i hi => by
    rcases List.mem_append.1 hi with hi | hi
    · exact hD.rowlt i hi
    · rw [List.mem_singleton.1 hi]; exact hm) d1 (fun b hb => by
    rw [← eM]
    simp only [List.mem_cons] at hb
    rcases hb with rfl | rfl | hb
    · exact .inl rfl
    · right; simp [idsOf]
    · right; simp only [idsOf, List.map_append, List.mem_append]; exact .inl hb)
  have HE := Lib.hid (show (⟨ids.map Prod.snd, row ++ [m]⟩ : LineD) = doL ⟨ids.map Prod.snd, row⟩ ⟨on, 3, key, m⟩ by simp [doL])
  clear hb hn d1 f1 eM
  have F := FF.out
  have hWb : Below w.heap.size w (W.drewN nq) := F.2.2.2.1.trans (Below.drewN W nq)
  have m1 : Blk w1 (w.heap.size + 1) _ _ := (F.2.1.drewN nq : Blk (W.drewN nq) _ _ _).fr f2 (fun hb => by have := (HL.out.ty _ hb).2.1; omega)
  have m2 : Blk w1 (w.heap.size + 1 + 1) _ _ := (F.2.2.1.drewN nq : Blk (W.drewN nq) _ _ _).fr f2 (fun hb => by have := (HL.out.ty _ hb).2.1; omega)
  have y0 : w1.cell? ⟨w.heap.size + 1 + 1, 0, none⟩ = some (.int .i64 0) := m2.cell 0
  have y1 : w1.cell? ⟨w.heap.size + 1 + 1, 1, none⟩ = some (.bool false) := m2.cell 1
  have y2 : w1.cell? ⟨w.heap.size + 1 + 1, 2, none⟩ = some (.slice none 0 0) := m2.cell 2
  have y3 : w1.cell? ⟨w.heap.size + 1 + 1, 3, none⟩ = some (.slice none 0 0) := m2.cell 3
  have z0 : w1.cell? ⟨w.heap.size + 1, 0, none⟩ = some (.int .i64 0) := m1.cell 0
  have z1 : w1.cell? ⟨w.heap.size + 1, 1, none⟩ = some (.bool false) := m1.cell 1
  have z2 : w1.cell? ⟨w.heap.size + 1, 2, none⟩ = some (.slice none 0 0) := m1.cell 2
  have z3 : w1.cell? ⟨w.heap.size + 1, 3, none⟩ = some (.slice none 0 0) := m1.cell 3
  have fz1 := m1.frozen
  have fz2 := m2.frozen
  have HH := Lib.hid (And.intro h1 (And.intro f2 (And.intro hWb (And.intro m1 m2))))
  clear h1 f2 hWb m1 m2 F hD
  go_wp2_with fail
  obtain ⟨h1, f2, hWb, m1, m2⟩ := HH.out
  obtain ⟨m3, f3⟩ := fin_cells m1 (.int .i64 0) (.bool false) (.slice none 0 0) (.slice none 0 0)
  refine bodyPost_ret (results_cell rfl _ _ _ rfl (seen_load m3)) rfl ?_
  exact ring_end (ks := []) hWb h1 f2 HE.out (keys_no (by simp) (by simp) _) (IntSl.nil _) (by omega) (by omega) m1 m2 (f3.trans (Fr.refl [] _) (by simp) (by simp))
set_option maxRecDepth 100000 in
set_option maxHeartbeats 3200000 in
theorem node4_calls {B rb lb : Nat} {ids : List (Nat × Int)} {row : List Nat} {nv : Value} (on key : Int) (m : Nat) (w : World) (h : RingI B w rb lb ids row nv ids) (hm : m < ids.length) (hl : ids.length ≤ 100000000000) (hr : row.length ≤ 100000000000) (hmay : m ∉ row) :
    Calls Try.prog 89 #[.pointer (some ⟨rb, 0, none⟩), .agg #[.int .i64 on, .int .i64 4, .int .i64 key, .int .i64 (m : Int)]] w (RingO B w rb lb ids row nv ⟨on, 4, key, m⟩) := by
  have F := three_new w #[.int .i64 on, .int .i64 4, .int .i64 key, .int .i64 m] #[.int .i64 0, .bool false, .slice none 0 0, .slice none 0 0] #[.int .i64 0, .bool false, .slice none 0 0, .slice none 0 0] 28 31 31
  have HR := Lib.hid (((h.alloc (Obj.cells #[.int .i64 on, .int .i64 4, .int .i64 key, .int .i64 m] 28)).alloc (Obj.cells #[.int .i64 0, .bool false, .slice none 0 0, .slice none 0 0] 31)).alloc (Obj.cells #[.int .i64 0, .bool false, .slice none 0 0, .slice none 0 0] 31))
  have HL := Lib.hid h
  clear h
  go_enter Try.func89, Try.ntmps89
  go_wp2_with fail
  generalize ((w.alloc (Obj.cells #[.int .i64 on, .int .i64 4, .int .i64 key, .int .i64 m] 28)).alloc (Obj.cells #[.int .i64 0, .bool false, .slice none 0 0, .slice none 0 0] 31)).alloc (Obj.cells #[.int .i64 0, .bool false, .slice none 0 0, .slice none 0 0] 31) = W at *
  have hp : (ids.map ptrN)[m]? = some (ptrN (pickN ids m)) := by rw [List.getElem?_map, pickN_get hm]; rfl
  obtain ⟨g, c, rfl, hc1, hc2, hg, pm⟩ := own_at HR.out.nodes hp
  obtain ⟨r0, r1, l0, l1, rl, ll⟩ := HR.out.cells
  have s3 : W.cell? ⟨w.heap.size, 3, none⟩ = some (.int .i64 (m : Int)) := F.1.cell 3
  have s1 : W.cell? ⟨w.heap.size, 1, none⟩ = some (.int .i64 4) := F.1.cell 1
  have sl := F.1.lt
  have FF := Lib.hid F
  clear F hp
  unfold ptrN at pm
  obtain ⟨⟨nb, nx⟩, hqq⟩ : ∃ qq, qq = pickN ids m := ⟨_, rfl⟩
  rw [← hqq] at pm
  have HQ := Lib.hid hqq.symm
  clear hqq
  go_quiet (fail)
  go_wp2_with fail
  have hD : RingI B (W.drewN nq) rb lb ids row (.slice (some ⟨g, 0, none⟩) ids.length c) ids := HR.out.fr (Fr.drewN [] W nq) (by simp)
  obtain ⟨p, n, hb⟩ := hD.all m _ (pickN_get hm)
  have hn := not_row hD hm hmay
  rw [HQ.out] at hb hn
  refine (frontNode_calls lb nb nx p n _ _ hD.dl hb hn).mono ?_
  rintro e w1 ⟨rfl, d1, f1⟩
  have eM : (nb, nx) :: row.map (pickN ids) = (m :: row).map (pickN ids) := by rw [List.map_cons, HQ.out]
  rw [eM] at d1
  obtain ⟨h1, f2⟩ := hD.re f1 (row' := m :: row) (fun i hi => by
    rcases List.mem_cons.1 hi with rfl | hi
    · exact hm
    · exact hD.rowlt i hi) d1 (fun b hb => by
    rw [← eM]
    simp only [List.mem_cons] at hb
    rcases hb with rfl | rfl | hb
    · exact .inl rfl
    · right; simp [idsOf]
    · right; simp only [idsOf, List.map_cons, List.mem_cons]; exact .inr hb)
  have HE := Lib.hid (show (⟨ids.map Prod.snd, m :: row⟩ : LineD) = doL ⟨ids.map Prod.snd, row⟩ ⟨on, 4, key, m⟩ by simp [doL])
  clear hb hn d1 f1 eM
  have F := FF.out
  have hWb : Below w.heap.size w (W.drewN nq) := F.2.2.2.1.trans (Below.drewN W nq)
  have m1 : Blk w1 (w.heap.size + 1) _ _ := (F.2.1.drewN nq : Blk (W.drewN nq) _ _ _).fr f2 (fun hb => by have := (HL.out.ty _ hb).2.1; omega)
  have m2 : Blk w1 (w.heap.size + 1 + 1) _ _ := (F.2.2.1.drewN nq : Blk (W.drewN nq) _ _ _).fr f2 (fun hb => by have := (HL.out.ty _ hb).2.1; omega)
  have y0 : w1.cell? ⟨w.heap.size + 1 + 1, 0, none⟩ = some (.int .i64 0) := m2.cell 0
  have y1 : w1.cell? ⟨w.heap.size + 1 + 1, 1, none⟩ = some (.bool false) := m2.cell 1
  have y2 : w1.cell? ⟨w.heap.size + 1 + 1, 2, none⟩ = some (.slice none 0 0) := m2.cell 2
  have y3 : w1.cell? ⟨w.heap.size + 1 + 1, 3, none⟩ = some (.slice none 0 0) := m2.cell 3
  have z0 : w1.cell? ⟨w.heap.size + 1, 0, none⟩ = some (.int .i64 0) := m1.cell 0
  have z1 : w1.cell? ⟨w.heap.size + 1, 1, none⟩ = some (.bool false) := m1.cell 1
  have z2 : w1.cell? ⟨w.heap.size + 1, 2, none⟩ = some (.slice none 0 0) := m1.cell 2
  have z3 : w1.cell? ⟨w.heap.size + 1, 3, none⟩ = some (.slice none 0 0) := m1.cell 3
  have fz1 := m1.frozen
  have fz2 := m2.frozen
  have HH := Lib.hid (And.intro h1 (And.intro f2 (And.intro hWb (And.intro m1 m2))))
  clear h1 f2 hWb m1 m2 F hD
  go_wp2_with fail
  obtain ⟨h1, f2, hWb, m1, m2⟩ := HH.out
  obtain ⟨m3, f3⟩ := fin_cells m1 (.int .i64 0) (.bool false) (.slice none 0 0) (.slice none 0 0)
  refine bodyPost_ret (results_cell rfl _ _ _ rfl (seen_load m3)) rfl ?_
  exact ring_end (ks := []) hWb h1 f2 HE.out (keys_no (by simp) (by simp) _) (IntSl.nil _) (by omega) (by omega) m1 m2 (f3.trans (Fr.refl [] _) (by simp) (by simp))
set_option maxRecDepth 100000 in
set_option maxHeartbeats 3200000 in
theorem node7_calls {B rb lb : Nat} {ids : List (Nat × Int)} {row : List Nat} {nv : Value} (on key : Int) (m : Nat) (w : World) (h : RingI B w rb lb ids row nv ids) (hm : m < ids.length) (hl : ids.length ≤ 100000000000) (hr : row.length ≤ 100000000000) (hmay : m ∈ row) :
    Calls Try.prog 89 #[.pointer (some ⟨rb, 0, none⟩), .agg #[.int .i64 on, .int .i64 7, .int .i64 key, .int .i64 (m : Int)]] w (RingO B w rb lb ids row nv ⟨on, 7, key, m⟩) := by
  have F := three_new w #[.int .i64 on, .int .i64 7, .int .i64 key, .int .i64 m] #[.int .i64 0, .bool false, .slice none 0 0, .slice none 0 0] #[.int .i64 0, .bool false, .slice none 0 0, .slice none 0 0] 28 31 31
  have HR := Lib.hid (((h.alloc (Obj.cells #[.int .i64 on, .int .i64 7, .int .i64 key, .int .i64 m] 28)).alloc (Obj.cells #[.int .i64 0, .bool false, .slice none 0 0, .slice none 0 0] 31)).alloc (Obj.cells #[.int .i64 0, .bool false, .slice none 0 0, .slice none 0 0] 31))
  have HL := Lib.hid h
  clear h
  go_enter Try.func89, Try.ntmps89
  go_wp2_with fail
  generalize ((w.alloc (Obj.cells #[.int .i64 on, .int .i64 7, .int .i64 key, .int .i64 m] 28)).alloc (Obj.cells #[.int .i64 0, .bool false, .slice none 0 0, .slice none 0 0] 31)).alloc (Obj.cells #[.int .i64 0, .bool false, .slice none 0 0, .slice none 0 0] 31) = W at *
  have hp : (ids.map ptrN)[m]? = some (ptrN (pickN ids m)) := by rw [List.getElem?_map, pickN_get hm]; rfl
  obtain ⟨g, c, rfl, hc1, hc2, hg, pm⟩ := own_at HR.out.nodes hp
  obtain ⟨r0, r1, l0, l1, rl, ll⟩ := HR.out.cells
  have s3 : W.cell? ⟨w.heap.size, 3, none⟩ = some (.int .i64 (m : Int)) := F.1.cell 3
  have s1 : W.cell? ⟨w.heap.size, 1, none⟩ = some (.int .i64 7) := F.1.cell 1
  have sl := F.1.lt
  have FF := Lib.hid F
  clear F hp
  unfold ptrN at pm
  obtain ⟨⟨nb, nx⟩, hqq⟩ : ∃ qq, qq = pickN ids m := ⟨_, rfl⟩
  rw [← hqq] at pm
  have HQ := Lib.hid hqq.symm
  clear hqq
  go_quiet (fail)
  go_wp2_with fail
  have hD : RingI B (W.drewN nq) rb lb ids row (.slice (some ⟨g, 0, none⟩) ids.length c) ids := HR.out.fr (Fr.drewN [] W nq) (by simp)
  obtain ⟨A, Bq, eRow, eIdx, eCut, eMap⟩ := row_split (ids := ids) hmay
  rw [HQ.out] at eMap
  have ei : idAt (row.map (pickN ids)) A.length = some ⟨nb, 0, none⟩ := by
    rw [eMap]; unfold idAt; rw [List.getElem?_append_right (by simp)]; simp
  have hAl : A.length < row.length := by rw [eRow]; simp
  have HC := Lib.hid (eachOn_calls lb (row.map (pickN ids)) A.length (by rw [List.length_map]; omega) (W.drewN nq) hD.dl (by rw [List.length_map]; exact hr))
  have ei2 := ei
  rw [ei2] at HC
  clear eRow eIdx eCut eMap ei ei2
  refine HC.out.mono ?_
  rintro e w1 ⟨v, rfl, o1, b1⟩
  obtain ⟨A1, c1, rfl⟩ := own_form o1
  have h1 := hD.fr (Fr.of_below (S := []) b1) (by simp)
  have f2 : Fr (ringS rb lb ids (.slice (some ⟨g, 0, none⟩) ids.length c)) (W.drewN nq) w1 := Fr.of_below b1
  have HK := Lib.hid (own_IntSl o1)
  clear o1 b1 HC
  generalize ((row.map (pickN ids)).drop A.length).map Prod.snd = ks at *
  have HE := Lib.hid (show (⟨ids.map Prod.snd, row⟩ : LineD) = doL ⟨ids.map Prod.snd, row⟩ ⟨on, 7, key, m⟩ by simp [doL])
  have F := FF.out
  have hWb : Below w.heap.size w (W.drewN nq) := F.2.2.2.1.trans (Below.drewN W nq)
  have m1 : Blk w1 (w.heap.size + 1) _ _ := (F.2.1.drewN nq : Blk (W.drewN nq) _ _ _).fr f2 (fun hb => by have := (HL.out.ty _ hb).2.1; omega)
  have m2 : Blk w1 (w.heap.size + 1 + 1) _ _ := (F.2.2.1.drewN nq : Blk (W.drewN nq) _ _ _).fr f2 (fun hb => by have := (HL.out.ty _ hb).2.1; omega)
  have y0 : w1.cell? ⟨w.heap.size + 1 + 1, 0, none⟩ = some (.int .i64 0) := m2.cell 0
  have y1 : w1.cell? ⟨w.heap.size + 1 + 1, 1, none⟩ = some (.bool false) := m2.cell 1
  have y2 : w1.cell? ⟨w.heap.size + 1 + 1, 2, none⟩ = some (.slice none 0 0) := m2.cell 2
  have y3 : w1.cell? ⟨w.heap.size + 1 + 1, 3, none⟩ = some (.slice none 0 0) := m2.cell 3
  have z0 : w1.cell? ⟨w.heap.size + 1, 0, none⟩ = some (.int .i64 0) := m1.cell 0
  have z1 : w1.cell? ⟨w.heap.size + 1, 1, none⟩ = some (.bool false) := m1.cell 1
  have z2 : w1.cell? ⟨w.heap.size + 1, 2, none⟩ = some (.slice none 0 0) := m1.cell 2
  have z3 : w1.cell? ⟨w.heap.size + 1, 3, none⟩ = some (.slice none 0 0) := m1.cell 3
  have fz1 := m1.frozen
  have fz2 := m2.frozen
  have HH := Lib.hid (And.intro h1 (And.intro f2 (And.intro hWb (And.intro m1 m2))))
  clear h1 f2 hWb m1 m2 F hD
  go_wp2_with fail
  obtain ⟨h1, f2, hWb, m1, m2⟩ := HH.out
  obtain ⟨m3, f3⟩ := fin_cells (Blk.far (c := w.heap.size + 1 + 1) (i := 2) (v := .slice A1 ks.length c1) m1 (by omega)) (.int .i64 0) (.bool false) (.slice A1 ks.length c1) (.slice none 0 0)
  refine bodyPost_ret (results_cell rfl _ _ _ rfl (seen_load m3)) rfl ?_
  exact ring_end hWb h1 f2 HE.out (keys_no (by simp) (by simp) _) HK.out (by omega) (by omega) m1 m2 ((Fr.setCell (S := [w.heap.size + 1, w.heap.size + 1 + 1]) w1 (w.heap.size + 1 + 1) 2 _ (by simp)).trans f3 (by simp) (by simp))
set_option maxRecDepth 100000 in
set_option maxHeartbeats 3200000 in
theorem node8_calls {B rb lb : Nat} {ids : List (Nat × Int)} {row : List Nat} {nv : Value} (on key : Int) (m : Nat) (w : World) (h : RingI B w rb lb ids row nv ids) (hm : m < ids.length) (hl : ids.length ≤ 100000000000) (hr : row.length ≤ 100000000000) (hmay : m ∈ row) :
    Calls Try.prog 89 #[.pointer (some ⟨rb, 0, none⟩), .agg #[.int .i64 on, .int .i64 8, .int .i64 key, .int .i64 (m : Int)]] w (RingO B w rb lb ids row nv ⟨on, 8, key, m⟩) := by
  have F := three_new w #[.int .i64 on, .int .i64 8, .int .i64 key, .int .i64 m] #[.int .i64 0, .bool false, .slice none 0 0, .slice none 0 0] #[.int .i64 0, .bool false, .slice none 0 0, .slice none 0 0] 28 31 31
  have HR := Lib.hid (((h.alloc (Obj.cells #[.int .i64 on, .int .i64 8, .int .i64 key, .int .i64 m] 28)).alloc (Obj.cells #[.int .i64 0, .bool false, .slice none 0 0, .slice none 0 0] 31)).alloc (Obj.cells #[.int .i64 0, .bool false, .slice none 0 0, .slice none 0 0] 31))
  have HL := Lib.hid h
  clear h
  go_enter Try.func89, Try.ntmps89
  go_wp2_with fail
  generalize ((w.alloc (Obj.cells #[.int .i64 on, .int .i64 8, .int .i64 key, .int .i64 m] 28)).alloc (Obj.cells #[.int .i64 0, .bool false, .slice none 0 0, .slice none 0 0] 31)).alloc (Obj.cells #[.int .i64 0, .bool false, .slice none 0 0, .slice none 0 0] 31) = W at *
  have hp : (ids.map ptrN)[m]? = some (ptrN (pickN ids m)) := by rw [List.getElem?_map, pickN_get hm]; rfl
  obtain ⟨g, c, rfl, hc1, hc2, hg, pm⟩ := own_at HR.out.nodes hp
  obtain ⟨r0, r1, l0, l1, rl, ll⟩ := HR.out.cells
  have s3 : W.cell? ⟨w.heap.size, 3, none⟩ = some (.int .i64 (m : Int)) := F.1.cell 3
  have s1 : W.cell? ⟨w.heap.size, 1, none⟩ = some (.int .i64 8) := F.1.cell 1
  have sl := F.1.lt
  have FF := Lib.hid F
  clear F hp
  unfold ptrN at pm
  obtain ⟨⟨nb, nx⟩, hqq⟩ : ∃ qq, qq = pickN ids m := ⟨_, rfl⟩
  rw [← hqq] at pm
  have HQ := Lib.hid hqq.symm
  clear hqq
  go_quiet (fail)
  go_wp2_with fail
  have hD : RingI B (W.drewN nq) rb lb ids row (.slice (some ⟨g, 0, none⟩) ids.length c) ids := HR.out.fr (Fr.drewN [] W nq) (by simp)
  obtain ⟨A, Bq, eRow, eIdx, eCut, eMap⟩ := row_split (ids := ids) hmay
  rw [HQ.out] at eMap
  have ei : idAt (row.map (pickN ids)) A.length = some ⟨nb, 0, none⟩ := by
    rw [eMap]; unfold idAt; rw [List.getElem?_append_right (by simp)]; simp
  have hAl : A.length < row.length := by rw [eRow]; simp
  have HC := Lib.hid (eachBack_calls lb (row.map (pickN ids)) (A.length + 1) (by rw [List.length_map]; omega) (W.drewN nq) hD.dl (by rw [List.length_map]; exact hr))
  have ei2 := (show prevAt (row.map (pickN ids)) (A.length + 1) = _ from ei)
  rw [ei2] at HC
  clear eRow eIdx eCut eMap ei ei2
  refine HC.out.mono ?_
  rintro e w1 ⟨v, rfl, o1, b1⟩
  obtain ⟨A1, c1, rfl⟩ := own_form o1
  have h1 := hD.fr (Fr.of_below (S := []) b1) (by simp)
  have f2 : Fr (ringS rb lb ids (.slice (some ⟨g, 0, none⟩) ids.length c)) (W.drewN nq) w1 := Fr.of_below b1
  have HK := Lib.hid (own_IntSl o1)
  clear o1 b1 HC
  generalize (((row.map (pickN ids)).take (A.length + 1)).map Prod.snd).reverse = ks at *
  have HE := Lib.hid (show (⟨ids.map Prod.snd, row⟩ : LineD) = doL ⟨ids.map Prod.snd, row⟩ ⟨on, 8, key, m⟩ by simp [doL])
  have F := FF.out
  have hWb : Below w.heap.size w (W.drewN nq) := F.2.2.2.1.trans (Below.drewN W nq)
  have m1 : Blk w1 (w.heap.size + 1) _ _ := (F.2.1.drewN nq : Blk (W.drewN nq) _ _ _).fr f2 (fun hb => by have := (HL.out.ty _ hb).2.1; omega)
  have m2 : Blk w1 (w.heap.size + 1 + 1) _ _ := (F.2.2.1.drewN nq : Blk (W.drewN nq) _ _ _).fr f2 (fun hb => by have := (HL.out.ty _ hb).2.1; omega)
  have y0 : w1.cell? ⟨w.heap.size + 1 + 1, 0, none⟩ = some (.int .i64 0) := m2.cell 0
  have y1 : w1.cell? ⟨w.heap.size + 1 + 1, 1, none⟩ = some (.bool false) := m2.cell 1
  have y2 : w1.cell? ⟨w.heap.size + 1 + 1, 2, none⟩ = some (.slice none 0 0) := m2.cell 2
  have y3 : w1.cell? ⟨w.heap.size + 1 + 1, 3, none⟩ = some (.slice none 0 0) := m2.cell 3
  have z0 : w1.cell? ⟨w.heap.size + 1, 0, none⟩ = some (.int .i64 0) := m1.cell 0
  have z1 : w1.cell? ⟨w.heap.size + 1, 1, none⟩ = some (.bool false) := m1.cell 1
  have z2 : w1.cell? ⟨w.heap.size + 1, 2, none⟩ = some (.slice none 0 0) := m1.cell 2
  have z3 : w1.cell? ⟨w.heap.size + 1, 3, none⟩ = some (.slice none 0 0) := m1.cell 3
  have fz1 := m1.frozen
  have fz2 := m2.frozen
  have HH := Lib.hid (And.intro h1 (And.intro f2 (And.intro hWb (And.intro m1 m2))))
  clear h1 f2 hWb m1 m2 F hD
  go_wp2_with fail
  obtain ⟨h1, f2, hWb, m1, m2⟩ := HH.out
  obtain ⟨m3, f3⟩ := fin_cells (Blk.far (c := w.heap.size + 1 + 1) (i := 2) (v := .slice A1 ks.length c1) m1 (by omega)) (.int .i64 0) (.bool false) (.slice A1 ks.length c1) (.slice none 0 0)
  refine bodyPost_ret (results_cell rfl _ _ _ rfl (seen_load m3)) rfl ?_
  exact ring_end hWb h1 f2 HE.out (keys_no (by simp) (by simp) _) HK.out (by omega) (by omega) m1 m2 ((Fr.setCell (S := [w.heap.size + 1, w.heap.size + 1 + 1]) w1 (w.heap.size + 1 + 1) 2 _ (by simp)).trans f3 (by simp) (by simp))
set_option maxRecDepth 100000 in
set_option maxHeartbeats 3200000 in
theorem nodeE_calls {B rb lb : Nat} {ids : List (Nat × Int)} {row : List Nat} {nv : Value} (on key : Int) (act : Int) (m : Nat) (w : World) (h : RingI B w rb lb ids row nv ids) (hm : m < ids.length) (hl : ids.length ≤ 100000000000) (hr : row.length ≤ 100000000000) (e2 : (act == 2) = false) (e3 : (act == 3) = false) (e4 : (act == 4) = false) (e7 : (act == 7) = false) (e8 : (act == 8) = false) (e0 : act ≠ 0) (e1 : act ≠ 1) (e9 : act ≠ 9) (e5 : act ≠ 5) (e6 : act ≠ 6) :
    Calls Try.prog 89 #[.pointer (some ⟨rb, 0, none⟩), .agg #[.int .i64 on, .int .i64 act, .int .i64 key, .int .i64 (m : Int)]] w (RingO B w rb lb ids row nv ⟨on, act, key, m⟩) := by
  have F := three_new w #[.int .i64 on, .int .i64 act, .int .i64 key, .int .i64 m] #[.int .i64 0, .bool false, .slice none 0 0, .slice none 0 0] #[.int .i64 0, .bool false, .slice none 0 0, .slice none 0 0] 28 31 31
  have HR := Lib.hid (((h.alloc (Obj.cells #[.int .i64 on, .int .i64 act, .int .i64 key, .int .i64 m] 28)).alloc (Obj.cells #[.int .i64 0, .bool false, .slice none 0 0, .slice none 0 0] 31)).alloc (Obj.cells #[.int .i64 0, .bool false, .slice none 0 0, .slice none 0 0] 31))
  have HL := Lib.hid h
  clear h
  go_enter Try.func89, Try.ntmps89
  go_wp2_with fail
  generalize ((w.alloc (Obj.cells #[.int .i64 on, .int .i64 act, .int .i64 key, .int .i64 m] 28)).alloc (Obj.cells #[.int .i64 0, .bool false, .slice none 0 0, .slice none 0 0] 31)).alloc (Obj.cells #[.int .i64 0, .bool false, .slice none 0 0, .slice none 0 0] 31) = W at *
  have hp : (ids.map ptrN)[m]? = some (ptrN (pickN ids m)) := by rw [List.getElem?_map, pickN_get hm]; rfl
  obtain ⟨g, c, rfl, hc1, hc2, hg, pm⟩ := own_at HR.out.nodes hp
  obtain ⟨r0, r1, l0, l1, rl, ll⟩ := HR.out.cells
  have s3 : W.cell? ⟨w.heap.size, 3, none⟩ = some (.int .i64 (m : Int)) := F.1.cell 3
  have s1 : W.cell? ⟨w.heap.size, 1, none⟩ = some (.int .i64 act) := F.1.cell 1
  have sl := F.1.lt
  have FF := Lib.hid F
  clear F hp
  unfold ptrN at pm
  obtain ⟨⟨nb, nx⟩, hqq⟩ : ∃ qq, qq = pickN ids m := ⟨_, rfl⟩
  rw [← hqq] at pm
  have HQ := Lib.hid hqq.symm
  clear hqq
  have F := FF.out
  have z0 : W.cell? ⟨w.heap.size + 1, 0, none⟩ = some (.int .i64 0) := F.2.1.cell 0
  have z1 : W.cell? ⟨w.heap.size + 1, 1, none⟩ = some (.bool false) := F.2.1.cell 1
  have z2 : W.cell? ⟨w.heap.size + 1, 2, none⟩ = some (.slice none 0 0) := F.2.1.cell 2
  have z3 : W.cell? ⟨w.heap.size + 1, 3, none⟩ = some (.slice none 0 0) := F.2.1.cell 3
  have y0 : W.cell? ⟨w.heap.size + 1 + 1, 0, none⟩ = some (.int .i64 0) := F.2.2.1.cell 0
  have y1 : W.cell? ⟨w.heap.size + 1 + 1, 1, none⟩ = some (.bool false) := F.2.2.1.cell 1
  have y2 : W.cell? ⟨w.heap.size + 1 + 1, 2, none⟩ = some (.slice none 0 0) := F.2.2.1.cell 2
  have y3 : W.cell? ⟨w.heap.size + 1 + 1, 3, none⟩ = some (.slice none 0 0) := F.2.2.1.cell 3
  have fz1 := F.2.1.frozen
  have fz2 := F.2.2.1.frozen
  clear F
  have HN := Lib.hid (And.intro e0 (And.intro e1 (And.intro e9 (And.intro e5 e6))))
  clear e0 e1 e9 e5 e6
  go_quiet (fail)
  go_wp2_with fail
  have hD : RingI B (W.drewN nq) rb lb ids row (.slice (some ⟨g, 0, none⟩) ids.length c) ids := HR.out.fr (Fr.drewN [] W nq) (by simp)
  have HE : (⟨ids.map Prod.snd, row⟩ : LineD) = doL ⟨ids.map Prod.snd, row⟩ ⟨on, act, key, m⟩ := by
    obtain ⟨e0, e1, e9, _, _⟩ := HN.out
    simp only [beq_eq_false_iff_ne] at e2 e3 e4
    unfold doL
    rw [if_neg e0, if_neg e1, if_neg e2, if_neg e3, if_neg e4, if_neg e9]
  have F := FF.out
  have m1 : Blk (W.drewN nq) (w.heap.size + 1) _ _ := F.2.1.drewN nq
  have m2 : Blk (W.drewN nq) (w.heap.size + 1 + 1) _ _ := F.2.2.1.drewN nq
  obtain ⟨m3, f3⟩ := fin_cells m1 (.int .i64 0) (.bool false) (.slice none 0 0) (.slice none 0 0)
  refine bodyPost_ret (results_cell rfl _ _ _ rfl (seen_load m3)) rfl ?_
  exact ring_end (ks := []) (F.2.2.2.1.trans (Below.drewN W nq)) hD (Fr.refl _ _) HE (keys_no HN.out.2.2.2.1 HN.out.2.2.2.2 _) (IntSl.nil _) (by omega) (by omega) m1 m2 (f3.trans (Fr.refl [] _) (by simp) (by simp))
end Go.Proofs.Ytinajjceojfflaa
