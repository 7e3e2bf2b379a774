/- AVL trees as data: zzNode. -/
import Derived.Test.YtpnmgfiifaljjaaShape1
namespace Go.Proofs.Ytpnmgfiifaljjaa
open Go.RowKit
attribute [local go_sem ↓] Go.wp_at_zero Go.wp_at_succ

theorem er_ok : ∀ {t : AT}, t.er.Ok ↔ t.Ok
  | .nil => Iff.rfl
  | .node b k v h l r => by simp only [AT.er, AT.Ok, er_ht, er_htOf, er_ok (t := l), er_ok (t := r)]
theorem er_vs : ∀ {t : AT}, t.er.Vs ↔ t.Vs
  | .nil => Iff.rfl
  | .node b k v h l r => by simp only [AT.er, AT.Vs, er_vs (t := l), er_vs (t := r)]
theorem er_len : ∀ t : AT, t.er.ids.length = t.ids.length
  | .nil => rfl
  | .node b k v h l r => by simp [AT.er, AT.ids, er_len l, er_len r]
theorem er_isSome (t : AT) : t.er.ptr.isSome = t.ptr.isSome := by cases t <;> rfl
theorem er_shape : ∀ t : AT, t.er.shape = t.shape
  | .nil => rfl
  | .node b k v h l r => by simp only [AT.er, AT.shape, er_isSome, er_shape l, er_shape r]
set_option maxRecDepth 100000 in
set_option maxHeartbeats 3200000 in
theorem zzNode_calls : ∀ (t : AT), t.ptr.isSome = true → t.Vs → ∀ (rest : List BrD) (v : Value) (w : World) (B : Nat), B ≤ w.heap.size → SlC 5 brCells w B v (t.shape ++ rest) →
    Calls Try.prog 82 #[v] w fun e w' => ∃ (T : AT) (v' : Value), e = .returned (.tuple #[.pointer T.ptr, v']) ∧ SlC 5 brCells w' B v' rest ∧ T.er = t.er ∧ T.In w' ∧ T.ids.Nodup ∧ (∀ i ∈ T.ids, w.heap.size ≤ i) ∧ Below w.heap.size w w' := by
  intro t
  induction t with
  | nil => intro h; cases h
  | node b0 k v0 h l r ihl ihr =>
    intro hsome hv rest v w B hB hs
    clear hsome
    obtain ⟨x, rfl⟩ := hv.1
    simp only [AT.shape, valI, List.cons_append, List.append_assoc] at hs
    obtain ⟨A, c, rfl⟩ := hs.form
    obtain ⟨b, off, a, rfl, g1, g3, g4, g5, z⟩ := hs.at_ (i := 0) (by simp)
    simp only [List.getElem?_cons_zero, Option.some.injEq] at g5
    subst g5
    have q0 := z 0 _ rfl
    have q1 := z 1 _ rfl
    have q2 := z 2 _ rfl
    have q3 := z 3 _ rfl
    have q4 := z 4 _ rfl
    simp only [Nat.zero_mul, Nat.add_zero] at q0 q1 q2 q3 q4
    simp only [List.length_cons] at g1 hs
    have HT := Lib.hid hs.tail
    have HQ := Lib.hid (fun (W : World) (hb : Below B w W) => And.intro ((hb.cell (p := ⟨b, off, none⟩) g3).trans q0) (And.intro ((hb.cell (p := ⟨b, off + 1, none⟩) g3).trans q1) (And.intro ((hb.cell (p := ⟨b, off + 2, none⟩) g3).trans q2) (And.intro ((hb.cell (p := ⟨b, off + 3, none⟩) g3).trans q3) ((hb.cell (p := ⟨b, off + 4, none⟩) g3).trans q4)))))
    clear hs z q0 q1 q2 q3 q4
    have IHL := Lib.hid ihl
    have IHR := Lib.hid ihr
    have HV := Lib.hid hv
    clear ihl ihr hv
    generalize htl : l.shape ++ (r.shape ++ rest) = tl at *
    by_cases hc : c = 1
    · have ht0 : tl = [] := List.eq_nil_of_length_eq_zero (by omega)
      subst hc ht0
      simp only [List.append_eq_nil_iff] at htl
      obtain ⟨hl0, hr0, rfl⟩ := htl
      have el : l = .nil := by cases l with
        | nil => rfl
        | node => simp [AT.shape] at hl0
      have er : r = .nil := by cases r with
        | nil => rfl
        | node => simp [AT.shape] at hr0
      subst el er
      clear IHL IHR HT
      simp only [List.length_nil, Nat.zero_add] at *
      have HQ' := HQ
      clear HQ g3 g4 hl0 hr0
      go_enter Try.func82, Try.ntmps82
      go_wp2_with fail
      go_region_held3 (fun w' => w'.cell? ⟨b, off, none⟩ = some (.int .i64 k) ∧ w'.cell? ⟨b, off + 1, none⟩ = some (.int .i64 x) ∧ w'.cell? ⟨b, off + 2, none⟩ = some (.int .i64 h) ∧ w'.cell? ⟨b, off + 3, none⟩ = some (.bool false) ∧ w'.cell? ⟨b, off + 4, none⟩ = some (.bool false))
        (first | exact HQ'.out _ (Below.drewN w 1) | exact HQ'.out _ ((Below.drewN w 1).alloc hB _))
        (fail)
      have N1 : Blk (w.alloc (Obj.cells #[.int .i64 k, .int .i64 x, .int .i64 h, .pointer none, .pointer none] 104)).drew w.heap.size (cellsN k (.int .i64 x) h .nil .nil) 104 := Blk.new w (cellsN k (.int .i64 x) h .nil .nil) 104
      have B1 : Below w.heap.size w (w.alloc (Obj.cells #[.int .i64 k, .int .i64 x, .int .i64 h, .pointer none, .pointer none] 104)).drew := ((Below.refl _ w).alloc (Nat.le_refl _) _).trans (Below.drewN _ 1)
      go_wp2_with fail
      go_ret2
      exact ⟨.node w.heap.size k (.int .i64 x) h .nil .nil, _, rfl, ⟨_, _, rfl, .inl rfl⟩, rfl, ⟨N1, trivial, trivial⟩, by simp [AT.ids], by simp [AT.ids], B1⟩
    have HTL := Lib.hid htl
    clear htl
    go_enter Try.func82, Try.ntmps82
    go_wp2_with fail
    go_region_held3 (fun w' => w'.cell? ⟨b, off, none⟩ = some (.int .i64 k) ∧ w'.cell? ⟨b, off + 1, none⟩ = some (.int .i64 x) ∧ w'.cell? ⟨b, off + 2, none⟩ = some (.int .i64 h) ∧ w'.cell? ⟨b, off + 3, none⟩ = some (.bool l.ptr.isSome) ∧ w'.cell? ⟨b, off + 4, none⟩ = some (.bool r.ptr.isSome))
      (first | exact HQ.out _ (Below.drewN w 1) | exact HQ.out _ ((Below.drewN w 1).alloc hB _))
      (fail)
    have N1 : Blk (w.alloc (Obj.cells #[.int .i64 k, .int .i64 x, .int .i64 h, .pointer none, .pointer none] 104)).drew w.heap.size (cellsN k (.int .i64 x) h .nil .nil) 104 := Blk.new w (cellsN k (.int .i64 x) h .nil .nil) 104
    have B1 : Below w.heap.size w (w.alloc (Obj.cells #[.int .i64 k, .int .i64 x, .int .i64 h, .pointer none, .pointer none] 104)).drew := ((Below.refl _ w).alloc (Nat.le_refl _) _).trans (Below.drewN _ 1)
    have Z1 : (w.alloc (Obj.cells #[.int .i64 k, .int .i64 x, .int .i64 h, .pointer none, .pointer none] 104)).drew.heap.size = w.heap.size + 1 := by simp
    generalize (w.alloc (Obj.cells #[.int .i64 k, .int .i64 x, .int .i64 h, .pointer none, .pointer none] 104)).drew = W1 at *
    obtain ⟨_, _, _, p3, p4⟩ := HQ.out _ (B1.mono hB)
    have S1 := Lib.hid (HT.out.below (B1.mono hB))
    have HB1 := Lib.hid B1
    clear HT B1
    generalize hnb : w.heap.size = nb at *
    go_upto_if 28 with (fail)
    go_cut [5] (fun s5 wc => ∃ T : AT, T.er = l.er ∧ SlC 5 brCells wc B s5 (r.shape ++ rest) ∧ Blk wc nb (cellsN k (.int .i64 x) h T .nil) 104 ∧ T.In wc ∧ T.ids.Nodup ∧ (∀ i ∈ T.ids, nb < i) ∧ Below nb w wc)
    case first =>
      by_cases hl : l.ptr.isSome = true
      · rw [hl] at p3 ⊢
        go_wp2_with fail
        refine (IHL.out hl HV.out.2.1 (r.shape ++ rest) _ W1 B (by omega) (by rw [HTL.out]; exact S1.out)).mono ?_
        rintro e W2 ⟨T1, v1, rfl, s1, e1, i1, n1, ge1, b1⟩
        have N2 : Blk W2 nb (cellsN k (.int .i64 x) h .nil .nil) 104 := N1.below b1 (by omega)
        have hne : nb ∉ T1.ids := fun hx => by have := ge1 _ hx; omega
        have c3 := N2.cell 3
        have fz := N2.frozen
        have F3 := Lib.hid (And.intro (set_l N2 T1 _ rfl) (And.intro (i1.set 3 (.pointer T1.ptr) hne) (s1.below ((Fr.setCell (S := [nb]) W2 nb 3 (.pointer T1.ptr) (by simp)).below (B := B) (by simpa using hB) (by have := b1.size; omega)))))
        have B3 := Lib.hid ((HB1.out.trans (b1.mono (by omega))).trans ((Fr.setCell (S := [nb]) W2 nb 3 (.pointer T1.ptr) (by simp)).below (B := nb) (by simp) (by have := b1.size; omega)))
        clear s1 i1 b1 N2 N1
        go_wp2_with fail
        go_meet
        exact ⟨T1, e1, F3.out.2.2, F3.out.1, F3.out.2.1, n1, fun i hi => by have := ge1 i hi; omega, B3.out⟩
      · have hl' : l.ptr.isSome = false := by simpa using hl
        clear hl
        have e0 : l = .nil := by cases l with
          | nil => rfl
          | node => cases hl'
        rw [hl'] at p3 ⊢
        go_wp2_with fail
        go_meet
        refine ⟨.nil, by rw [e0], ?_, N1, trivial, by simp [AT.ids], by simp [AT.ids], HB1.out⟩
        have := HTL.out
        rw [e0] at this
        rw [show r.shape ++ rest = tl by simpa [AT.shape] using this]
        exact S1.out
    case rest =>
    obtain ⟨T1, e1, s1, N2, i1, n1, ge1, b2⟩ := hcut
    obtain ⟨_, _, _, _, p4⟩ := HQ.out _ (b2.mono hB)
    have HB2 := Lib.hid b2
    have hwc := b2.size
    have hnw : nb < wc.heap.size := N2.lt
    clear S1 HB1 Z1 N1 b2
    go_upto_if 40 with (fail)
    go_cut [5] (fun s5 wd => ∃ T : AT, T.er = r.er ∧ SlC 5 brCells wd B s5 rest ∧ Blk wd nb (cellsN k (.int .i64 x) h T1 T) 104 ∧ T1.In wd ∧ T.In wd ∧ T.ids.Nodup ∧ (∀ i ∈ T.ids, wc.heap.size ≤ i) ∧ Below nb w wd)
    case first =>
      by_cases hr : r.ptr.isSome = true
      · rw [hr] at p4 ⊢
        go_wp2_with fail
        refine (IHR.out hr HV.out.2.2 rest _ wc B (by omega) s1).mono ?_
        rintro e W2 ⟨T2, v2, rfl, s2, e2, i2, n2, ge2, b1⟩
        have N3 : Blk W2 nb (cellsN k (.int .i64 x) h T1 .nil) 104 := N2.below b1 hnw
        have hne : nb ∉ T2.ids := fun hx => by have := ge2 _ hx; omega
        have hne1 : nb ∉ T1.ids := fun hx => by have := ge1 _ hx; omega
        have c3 := N3.cell 4
        have fz := N3.frozen
        have i1' : T1.In W2 := i1.fr (S := []) (Fr.of_below b1) (by simp)
        have F3 := Lib.hid (And.intro (set_r N3 T2 _ rfl) (And.intro (i2.set 4 (.pointer T2.ptr) hne) (And.intro (i1'.set 4 (.pointer T2.ptr) hne1) (s2.below ((Fr.setCell (S := [nb]) W2 nb 4 (.pointer T2.ptr) (by simp)).below (B := B) (by simpa using hB) (by have := b1.size; omega))))))
        have B3 := Lib.hid ((HB2.out.trans (b1.mono (by omega))).trans ((Fr.setCell (S := [nb]) W2 nb 4 (.pointer T2.ptr) (by simp)).below (B := nb) (by simp) (by have := b1.size; omega)))
        clear s2 i2 b1 N2 N3 i1 i1' s1
        go_wp2_with fail
        go_meet
        exact ⟨T2, e2, F3.out.2.2.2, F3.out.1, F3.out.2.2.1, F3.out.2.1, n2, ge2, B3.out⟩
      · have hr' : r.ptr.isSome = false := by simpa using hr
        clear hr
        have e0 : r = .nil := by cases r with
          | nil => rfl
          | node => cases hr'
        rw [hr'] at p4 ⊢
        go_wp2_with fail
        go_meet
        refine ⟨.nil, by rw [e0], ?_, N2, i1, trivial, by simp [AT.ids], by simp [AT.ids], HB2.out⟩
        rw [e0] at s1
        simpa [AT.shape] using s1
    case rest =>
    obtain ⟨T2, e2, s2, N3, j1, i2, n2, ge2, b3⟩ := hcut
    go_wp2_with fail
    go_ret2
    refine ⟨.node nb k (.int .i64 x) h T1 T2, _, rfl, s2, by simp only [AT.er, e1, e2], ⟨N3, j1, i2⟩, ?_, ?_, ?_⟩
    · simp only [AT.ids, List.nodup_cons, List.mem_append, List.nodup_append]
      refine ⟨?_, n1, n2, ?_⟩
      · rintro (hx | hx)
        · have := ge1 _ hx; omega
        · have := ge2 _ hx; omega
      · rintro y hy z hz rfl
        have := i1.lt y hy
        have := ge2 y hz
        omega
    · intro i hi
      simp only [AT.ids, List.mem_cons, List.mem_append] at hi
      rcases hi with rfl | hi | hi
      · omega
      · have := ge1 i hi; omega
      · have := ge2 i hi; omega
    · rw [hnb]; exact b3
end Go.Proofs.Ytpnmgfiifaljjaa
