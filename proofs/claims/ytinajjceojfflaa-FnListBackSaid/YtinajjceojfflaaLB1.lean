/- (*list.List[int]).Remove, PushBackNode, PushFrontNode, PushFront. -/
import Derived.Test.YtinajjceojfflaaLB0
namespace Go.Proofs.Ytinajjceojfflaa
open Go.RowKit

theorem DL.nx {w : World} {lb : Nat} {ns : List (Nat × Int)} (h : DL w lb ns) (k : Nat) : idAt ns k = none ∨ ∃ z y, idAt ns k = some ⟨z, 0, none⟩ ∧ ns[k]? = some (z, y) ∧ Blk w z (nodeC y (prevAt ns k) (idAt ns (k + 1))) 107 := by
  by_cases hk : k < ns.length
  · right
    obtain ⟨⟨z, y⟩, hzy⟩ : ∃ p, ns[k]? = some p := ⟨_, List.getElem?_eq_getElem hk⟩
    exact ⟨z, y, by unfold idAt; rw [hzy]; rfl, hzy, h.nodes k _ hzy⟩
  · exact .inl (idAt_ge (by omega))
theorem DL.pv {w : World} {lb : Nat} {ns : List (Nat × Int)} (h : DL w lb ns) (k : Nat) : prevAt ns k = none ∨ ∃ z y c, prevAt ns k = some ⟨z, 0, none⟩ ∧ ns[c]? = some (z, y) ∧ c + 1 = k ∧ Blk w z (nodeC y (prevAt ns c) (idAt ns (c + 1))) 107 := by
  cases k with
  | zero => exact .inl rfl
  | succ k =>
    rcases h.nx k with e | ⟨z, y, e, h1, h2⟩
    · exact .inl e
    · exact .inr ⟨z, y, k, e, h1, rfl, h2⟩
set_option maxHeartbeats 1600000 in
theorem remove_calls (lb b : Nat) (x : Int) (A B : List (Nat × Int)) (w : World) (h : DL w lb (A ++ (b, x) :: B)) :
    Calls Try.prog 80 #[.pointer (some ⟨lb, 0, none⟩), .pointer (some ⟨b, 0, none⟩)] w fun e w' => e = .returned (.tuple #[]) ∧ DL w' lb (A ++ B) ∧ (∃ p n, Blk w' b (nodeC x p n) 107) ∧ Fr (lb :: idsOf (A ++ B)) w w' := by
  have hm : (A ++ (b, x) :: B)[A.length]? = some (b, x) := by rw [List.getElem?_append_right (Nat.le_refl _), Nat.sub_self]; rfl
  have hU := Lib.hid (fun nx pv => h.unlink (nx := nx) (pv := pv))
  have hb := h.nodes _ _ hm
  have hne : lb ≠ b := blk_ne h.blk hb (by decide)
  have hne' : b ≠ lb := Ne.symm hne
  have fl := fun i => h.blk.frozen i
  have fb := fun i => hb.frozen i
  have b1 : w.cell? ⟨b, 1, none⟩ = some (.pointer (prevAt (A ++ (b, x) :: B) A.length)) := hb.cell 1
  have b2 : w.cell? ⟨b, 2, none⟩ = some (.pointer (idAt (A ++ (b, x) :: B) (A.length + 1))) := hb.cell 2
  have hN := h.nx (A.length + 1)
  have hP := h.pv A.length
  have hzb : ∀ {k : Nat} {z : Nat} {y : Int}, (A ++ (b, x) :: B)[k]? = some (z, y) → k ≠ A.length → z ≠ b := fun hk hne e => hne (ids_inj h.nodup hk hm e)
  have hzl : ∀ {k : Nat} {z : Nat} {y : Int}, (A ++ (b, x) :: B)[k]? = some (z, y) → lb ≠ z := fun hk => blk_ne h.blk (h.nodes _ _ hk) (by decide)
  have hzz : ∀ {k k' : Nat} {z z' : Nat} {y y' : Int}, (A ++ (b, x) :: B)[k]? = some (z, y) → (A ++ (b, x) :: B)[k']? = some (z', y') → k ≠ k' → z ≠ z' := fun hk hk' hne e => hne (ids_inj h.nodup hk hk' e)
  obtain ⟨v0, l0⟩ : ∃ v, w.cell? ⟨lb, 0, none⟩ = some (.pointer v) := ⟨_, h.blk.cell 0⟩
  obtain ⟨v1, l1⟩ : ∃ v, w.cell? ⟨lb, 1, none⟩ = some (.pointer v) := ⟨_, h.blk.cell 1⟩
  clear h hb hm
  rcases hN with e1 | ⟨z, y, e1, hz, kz⟩ <;> rcases hP with e2 | ⟨z', y', c, e2, hz', hc, kz'⟩
  · replace hU := Lib.hid (hU.out none none e1.symm e2.symm)
    rw [e1] at b2
    rw [e2] at b1
    clear e1 e2 hzb hzl hzz
    go_enter Try.func80, Try.ntmps80
    go_wp2_with fail
    go_end0
    obtain ⟨u1, u2, u3⟩ := hU.out
    exact ⟨rfl, u1, ⟨_, _, u2⟩, u3⟩
  · replace hU := Lib.hid (hU.out none (some ⟨z', 0, none⟩) e1.symm e2.symm)
    rw [e1] at b2
    rw [e2] at b1
    have q1 := hzb hz' (by omega)
    have q2 := hzl hz'
    have q1' := Ne.symm q1
    have q2' := Ne.symm q2
    have fz := fun i => kz'.frozen i
    obtain ⟨g1', k1'⟩ : ∃ v, w.cell? ⟨z', 1, none⟩ = some (.pointer v) := ⟨_, kz'.cell 1⟩
    obtain ⟨g2', k2'⟩ : ∃ v, w.cell? ⟨z', 2, none⟩ = some (.pointer v) := ⟨_, kz'.cell 2⟩
    clear e1 e2 hzb hzl hzz kz' hz'
    go_enter Try.func80, Try.ntmps80
    go_wp2_with fail
    go_region_with (fail)
    all_goals
      go_wp2_with fail
      go_end0
      obtain ⟨u1, u2, u3⟩ := hU.out
      first
      | exact ⟨rfl, u1, ⟨_, _, u2⟩, u3⟩
      | exact ⟨rfl, (u1.fr (Fr.drewN [] _ 1) (by simp) (by simp) : DL (World.drewN _ 1) lb _), ⟨_, _, (u2.drewN 1 : Blk (World.drewN _ 1) _ _ _)⟩, (u3.comp (Fr.drewN _ _ 1) : Fr _ w (World.drewN _ 1))⟩
  · replace hU := Lib.hid (hU.out (some ⟨z, 0, none⟩) none e1.symm e2.symm)
    rw [e1] at b2
    rw [e2] at b1
    have q1 := hzb hz (by omega)
    have q2 := hzl hz
    have q1' := Ne.symm q1
    have q2' := Ne.symm q2
    have fz := fun i => kz.frozen i
    obtain ⟨g1, k1⟩ : ∃ v, w.cell? ⟨z, 1, none⟩ = some (.pointer v) := ⟨_, kz.cell 1⟩
    obtain ⟨g2, k2⟩ : ∃ v, w.cell? ⟨z, 2, none⟩ = some (.pointer v) := ⟨_, kz.cell 2⟩
    clear e1 e2 hzb hzl hzz kz hz
    go_enter Try.func80, Try.ntmps80
    go_wp2_with fail
    go_region_with (fail)
    all_goals
      go_wp2_with fail
      go_end0
      obtain ⟨u1, u2, u3⟩ := hU.out
      first
      | exact ⟨rfl, u1, ⟨_, _, u2⟩, u3⟩
      | exact ⟨rfl, (u1.fr (Fr.drewN [] _ 1) (by simp) (by simp) : DL (World.drewN _ 1) lb _), ⟨_, _, (u2.drewN 1 : Blk (World.drewN _ 1) _ _ _)⟩, (u3.comp (Fr.drewN _ _ 1) : Fr _ w (World.drewN _ 1))⟩
  · replace hU := Lib.hid (hU.out (some ⟨z, 0, none⟩) (some ⟨z', 0, none⟩) e1.symm e2.symm)
    rw [e1] at b2
    rw [e2] at b1
    have q1 := hzb hz (by omega)
    have q2 := hzl hz
    have q1' := Ne.symm q1
    have q2' := Ne.symm q2
    have q3 := hzb hz' (by omega)
    have q4 := hzl hz'
    have q3' := Ne.symm q3
    have q4' := Ne.symm q4
    have q5 := hzz hz hz' (by omega)
    have q5' := Ne.symm q5
    have fz := fun i => kz.frozen i
    obtain ⟨g1, k1⟩ : ∃ v, w.cell? ⟨z, 1, none⟩ = some (.pointer v) := ⟨_, kz.cell 1⟩
    obtain ⟨g2, k2⟩ : ∃ v, w.cell? ⟨z, 2, none⟩ = some (.pointer v) := ⟨_, kz.cell 2⟩
    have fz' := fun i => kz'.frozen i
    obtain ⟨g1', k1'⟩ : ∃ v, w.cell? ⟨z', 1, none⟩ = some (.pointer v) := ⟨_, kz'.cell 1⟩
    obtain ⟨g2', k2'⟩ : ∃ v, w.cell? ⟨z', 2, none⟩ = some (.pointer v) := ⟨_, kz'.cell 2⟩
    clear e1 e2 hzb hzl hzz kz hz kz' hz'
    go_enter Try.func80, Try.ntmps80
    go_wp2_with fail
    go_region_with (fail)
    all_goals
      go_wp2_with fail
      go_region_with (fail)
    all_goals
      go_wp2_with fail
      go_end0
      obtain ⟨u1, u2, u3⟩ := hU.out
      first
      | exact ⟨rfl, u1, ⟨_, _, u2⟩, u3⟩
      | exact ⟨rfl, (u1.fr (Fr.drewN [] _ 2) (by simp) (by simp) : DL (World.drewN _ 2) lb _), ⟨_, _, (u2.drewN 2 : Blk (World.drewN _ 2) _ _ _)⟩, (u3.comp (Fr.drewN _ _ 2) : Fr _ w (World.drewN _ 2))⟩
set_option maxHeartbeats 1600000 in
theorem backNode_calls (lb nb : Nat) (x : Int) (p n : Option Addr) (ns : List (Nat × Int)) (w : World) (h : DL w lb ns) (hb : Blk w nb (nodeC x p n) 107) (hn : nb ∉ idsOf ns) :
    Calls Try.prog 100 #[.pointer (some ⟨lb, 0, none⟩), .pointer (some ⟨nb, 0, none⟩)] w fun e w' => e = .returned (.tuple #[]) ∧ DL w' lb (ns ++ [(nb, x)]) ∧ Fr (lb :: nb :: idsOf ns) w w' := by
  have hU := Lib.hid (fun bk => h.linkB hb hn (bk := bk))
  have hne : lb ≠ nb := blk_ne h.blk hb (by decide)
  have hne' : nb ≠ lb := Ne.symm hne
  have fn := fun i => hb.frozen i
  have fl := fun i => h.blk.frozen i
  have l0 : w.cell? ⟨lb, 0, none⟩ = some (.pointer (idAt ns 0)) := h.blk.cell 0
  have l1 : w.cell? ⟨lb, 1, none⟩ = some (.pointer (prevAt ns ns.length)) := h.blk.cell 1
  have n1 : w.cell? ⟨nb, 1, none⟩ = some (.pointer p) := hb.cell 1
  have n2 : w.cell? ⟨nb, 2, none⟩ = some (.pointer n) := hb.cell 2
  have hP := h.pv ns.length
  have hzl : ∀ {k : Nat} {z : Nat} {y : Int}, ns[k]? = some (z, y) → lb ≠ z := fun hk => blk_ne h.blk (h.nodes _ _ hk) (by decide)
  have hzn : ∀ {k : Nat} {z : Nat} {y : Int}, ns[k]? = some (z, y) → z ≠ nb := fun hk e => hn (by subst e; exact List.mem_map_of_mem (f := Prod.fst) (List.mem_of_getElem? hk))
  clear h hb hn
  generalize idAt ns 0 = fr at l0
  rcases hP with e2 | ⟨z, y, c, e2, hz, hc, kz⟩
  · replace hU := Lib.hid (hU.out none e2.symm)
    rw [e2] at l1
    clear e2 hzl hzn
    go_enter Try.func100, Try.ntmps100
    go_wp2_with fail
    go_end0
    exact ⟨rfl, hU.out⟩
  · replace hU := Lib.hid (hU.out (some ⟨z, 0, none⟩) e2.symm)
    rw [e2] at l1
    have q1 := hzn hz
    have q2 := hzl hz
    have q1' := Ne.symm q1
    have q2' := Ne.symm q2
    have fz := fun i => kz.frozen i
    obtain ⟨g1, k1⟩ : ∃ v, w.cell? ⟨z, 1, none⟩ = some (.pointer v) := ⟨_, kz.cell 1⟩
    obtain ⟨g2, k2⟩ : ∃ v, w.cell? ⟨z, 2, none⟩ = some (.pointer v) := ⟨_, kz.cell 2⟩
    clear e2 hzl hzn hz kz hc
    go_enter Try.func100, Try.ntmps100
    go_wp2_with fail
    go_end0
    exact ⟨rfl, hU.out⟩
set_option maxHeartbeats 1600000 in
theorem frontNode_calls (lb nb : Nat) (x : Int) (p n : Option Addr) (ns : List (Nat × Int)) (w : World) (h : DL w lb ns) (hb : Blk w nb (nodeC x p n) 107) (hn : nb ∉ idsOf ns) :
    Calls Try.prog 101 #[.pointer (some ⟨lb, 0, none⟩), .pointer (some ⟨nb, 0, none⟩)] w fun e w' => e = .returned (.tuple #[]) ∧ DL w' lb ((nb, x) :: ns) ∧ Fr (lb :: nb :: idsOf ns) w w' := by
  have hU := Lib.hid (fun fr => h.linkF hb hn (fr := fr))
  have hne : lb ≠ nb := blk_ne h.blk hb (by decide)
  have hne' : nb ≠ lb := Ne.symm hne
  have fn := fun i => hb.frozen i
  have fl := fun i => h.blk.frozen i
  have l0 : w.cell? ⟨lb, 0, none⟩ = some (.pointer (idAt ns 0)) := h.blk.cell 0
  have l1 : w.cell? ⟨lb, 1, none⟩ = some (.pointer (prevAt ns ns.length)) := h.blk.cell 1
  have n1 : w.cell? ⟨nb, 1, none⟩ = some (.pointer p) := hb.cell 1
  have n2 : w.cell? ⟨nb, 2, none⟩ = some (.pointer n) := hb.cell 2
  have hP := h.nx 0
  have hzl : ∀ {k : Nat} {z : Nat} {y : Int}, ns[k]? = some (z, y) → lb ≠ z := fun hk => blk_ne h.blk (h.nodes _ _ hk) (by decide)
  have hzn : ∀ {k : Nat} {z : Nat} {y : Int}, ns[k]? = some (z, y) → z ≠ nb := fun hk e => hn (by subst e; exact List.mem_map_of_mem (f := Prod.fst) (List.mem_of_getElem? hk))
  clear h hb hn
  generalize prevAt ns ns.length = bk at l1
  rcases hP with e2 | ⟨z, y, e2, hz, kz⟩
  · replace hU := Lib.hid (hU.out none e2.symm)
    rw [e2] at l0
    clear e2 hzl hzn
    go_enter Try.func101, Try.ntmps101
    go_wp2_with fail
    go_end0
    exact ⟨rfl, hU.out⟩
  · replace hU := Lib.hid (hU.out (some ⟨z, 0, none⟩) e2.symm)
    rw [e2] at l0
    have q1 := hzn hz
    have q2 := hzl hz
    have q1' := Ne.symm q1
    have q2' := Ne.symm q2
    have fz := fun i => kz.frozen i
    obtain ⟨g1, k1⟩ : ∃ v, w.cell? ⟨z, 1, none⟩ = some (.pointer v) := ⟨_, kz.cell 1⟩
    obtain ⟨g2, k2⟩ : ∃ v, w.cell? ⟨z, 2, none⟩ = some (.pointer v) := ⟨_, kz.cell 2⟩
    clear e2 hzl hzn hz kz
    go_enter Try.func101, Try.ntmps101
    go_wp2_with fail
    go_end0
    exact ⟨rfl, hU.out⟩
set_option maxHeartbeats 1600000 in
theorem pushFront_calls (lb : Nat) (x : Int) (ns : List (Nat × Int)) (w : World) (h : DL w lb ns) :
    Calls Try.prog 87 #[.pointer (some ⟨lb, 0, none⟩), .int .i64 x] w fun e w' => e = .returned (.tuple #[]) ∧ DL w' lb ((w.heap.size, x) :: ns) ∧ Fr (lb :: idsOf ns) w w' := by
  have hlt := h.lt
  have HC := Lib.hid (frontNode_calls lb w.heap.size x none none ns (w.alloc (Obj.cells (nodeC x none none) 107)) (h.alloc _) (Blk.new _ _ _) (fun hx => absurd (hlt _ hx) (by omega)))
  clear h
  go_enter Try.func87, Try.ntmps87
  go_wp2_with fail
  refine HC.out.mono ?_
  rintro e w1 ⟨rfl, h1, f1⟩
  go_wp2_with fail
  go_end0
  refine ⟨rfl, h1, (Fr.alloc _ w _).trans f1 (fun _ h => .inl h) ?_⟩
  intro a ha
  simp at ha
  rcases ha with rfl | rfl | ha
  · simp
  · right; exact Nat.le_refl _
  · left; simp [ha]
end Go.Proofs.Ytinajjceojfflaa
