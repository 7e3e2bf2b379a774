/- doubly linked lists of ints in memory: what is pushed behind, what is removed in front. -/
import Derived.Test.YtinajjceojfflaaK
import Derived.Test.YtinajjceojfflaaProg
import Derived.Test.YtinajjceojfflaaHeap0
import Derived.Lib.Hide
import Derived.Deep.RegionWith
import Derived.StillTailTactics
namespace Go.Proofs.Ytinajjceojfflaa
open Go.RowKit

/-- where a node lies: nodes are blocks with their numbers. -/
def idAt (ns : List (Nat × Int)) (i : Nat) : Option Addr := (ns[i]?).map (fun p => ⟨p.1, 0, none⟩)
def prevAt (ns : List (Nat × Int)) : Nat → Option Addr
  | 0 => none
  | i + 1 => idAt ns i
def nodeC (x : Int) (p n : Option Addr) : Array Value := #[.int .i64 x, .pointer p, .pointer n]
/-- a list in memory. -/
structure DL (w : World) (lb : Nat) (ns : List (Nat × Int)) : Prop where
  blk : Blk w lb #[.pointer (idAt ns 0), .pointer (prevAt ns ns.length)] 109
  nodes : ∀ i p, ns[i]? = some p → Blk w p.1 (nodeC p.2 (prevAt ns i) (idAt ns (i + 1))) 107
  nodup : (ns.map Prod.fst).Nodup
def idsOf (ns : List (Nat × Int)) : List Nat := ns.map Prod.fst
theorem DL.fr {w w' : World} {lb : Nat} {ns : List (Nat × Int)} (h : DL w lb ns) {S : List Nat} (hf : Fr S w w') (h1 : lb ∉ S) (h2 : ∀ x ∈ idsOf ns, x ∉ S) : DL w' lb ns :=
  ⟨h.blk.fr hf h1, fun i p hi => (h.nodes i p hi).fr hf (h2 _ (List.mem_map_of_mem (List.mem_of_getElem? hi))), h.nodup⟩
theorem DL.alloc {w : World} {lb : Nat} {ns : List (Nat × Int)} (h : DL w lb ns) (o : Obj) : DL (w.alloc o) lb ns := h.fr (Fr.alloc [] w o) (by simp) (by simp)
theorem blk_ne {w : World} {a b : Nat} {ca cb : Array Value} {Ta Tb : TypeId} (ha : Blk w a ca Ta) (hb : Blk w b cb Tb) (hT : Ta ≠ Tb) : a ≠ b := fun e => by
  subst e
  unfold Blk at ha hb
  rw [ha] at hb
  simp at hb
  exact hT hb.2
theorem idAt_lt {ns : List (Nat × Int)} {i : Nat} (h : i < ns.length) : idAt ns i = some ⟨ns[i].1, 0, none⟩ := by unfold idAt; rw [List.getElem?_eq_getElem h]; rfl
theorem idAt_ge {ns : List (Nat × Int)} {i : Nat} (h : ns.length ≤ i) : idAt ns i = none := by unfold idAt; rw [List.getElem?_eq_none h]; rfl
theorem idAt_snoc (ns : List (Nat × Int)) (q : Nat × Int) (i : Nat) : idAt (ns ++ [q]) i = if i < ns.length then idAt ns i else if i = ns.length then some ⟨q.1, 0, none⟩ else none := by
  unfold idAt
  split
  · rw [List.getElem?_append_left (by assumption)]
  · rw [List.getElem?_append_right (by omega)]
    split
    · subst i; simp
    · rw [List.getElem?_eq_none (by simp; omega)]; rfl
theorem prevAt_snoc (ns : List (Nat × Int)) (q : Nat × Int) (i : Nat) (h : i ≤ ns.length) : prevAt (ns ++ [q]) i = prevAt ns i := by
  cases i with
  | zero => rfl
  | succ i => simp only [prevAt]; rw [idAt_snoc, if_pos (by omega)]
theorem idAt_cons (p : Nat × Int) (ns : List (Nat × Int)) (i : Nat) : idAt (p :: ns) (i + 1) = idAt ns i := by unfold idAt; rw [List.getElem?_cons_succ]
theorem ids_inj {ns : List (Nat × Int)} (h : (ns.map Prod.fst).Nodup) {i j : Nat} {p q : Nat × Int} (hi : ns[i]? = some p) (hj : ns[j]? = some q) (e : p.1 = q.1) : i = j := by
  obtain ⟨hi1, rfl⟩ := List.getElem?_eq_some_iff.1 hi
  obtain ⟨hj1, rfl⟩ := List.getElem?_eq_some_iff.1 hj
  unfold List.Nodup at h
  rw [List.pairwise_iff_getElem] at h
  rcases Nat.lt_trichotomy i j with hlt | he | hgt
  · exact absurd (by rw [List.getElem_map, List.getElem_map]; exact e) (h i j (by simpa using hi1) (by simpa using hj1) hlt)
  · exact he
  · exact absurd (by rw [List.getElem_map, List.getElem_map]; exact e.symm) (h j i (by simpa using hj1) (by simpa using hi1) hgt)
set_option maxHeartbeats 1600000 in
theorem pushBackNode_calls (lb nb : Nat) (x : Int) (ns : List (Nat × Int)) (w : World) (h : DL w lb ns) (hb : Blk w nb (nodeC x none none) 107) (hn : nb ∉ idsOf ns) :
    Calls Try.prog 100 #[.pointer (some ⟨lb, 0, none⟩), .pointer (some ⟨nb, 0, none⟩)] w fun e w' => e = .returned (.tuple #[]) ∧ DL w' lb (ns ++ [(nb, x)]) ∧ Fr (lb :: nb :: idsOf ns) w w' := by
  have hne : lb ≠ nb := blk_ne h.blk hb (by decide)
  have hne' : nb ≠ lb := Ne.symm hne
  have fn := fun i => hb.frozen i
  have fl := fun i => h.blk.frozen i
  have l0 : w.cell? ⟨lb, 0, none⟩ = some (.pointer (idAt ns 0)) := h.blk.cell 0
  have l1 : w.cell? ⟨lb, 1, none⟩ = some (.pointer (prevAt ns ns.length)) := h.blk.cell 1
  have n1 : w.cell? ⟨nb, 1, none⟩ = some (.pointer none) := hb.cell 1
  have n2 : w.cell? ⟨nb, 2, none⟩ = some (.pointer none) := hb.cell 2
  have HN := Lib.hid hn
  clear hn
  rcases List.eq_nil_or_concat ns with rfl | ⟨init, last, hcc⟩
  · have l0' : w.cell? ⟨lb, 0, none⟩ = some (.pointer none) := l0
    have l1' : w.cell? ⟨lb, 1, none⟩ = some (.pointer none) := l1
    clear l0 l1
    have HH := Lib.hid (And.intro h hb)
    clear h hb
    go_enter Try.func100, Try.ntmps100
    go_wp2_with fail
    go_end0
    obtain ⟨h, hb⟩ := HH.out
    have B1 := ((((hb.set 2 (.pointer none)).set 1 (.pointer none)).far (c := lb) (i := 0) (v := .pointer (some ⟨nb, 0, none⟩)) hne').far (c := lb) (i := 1) (v := .pointer (some ⟨nb, 0, none⟩)) hne')
    have L1 := ((((h.blk.far (c := nb) (i := 2) (v := .pointer none) hne).far (c := nb) (i := 1) (v := .pointer none) hne).set 0 (.pointer (some ⟨nb, 0, none⟩))).set 1 (.pointer (some ⟨nb, 0, none⟩)))
    refine ⟨rfl, ⟨L1, ?_, by simp⟩, ?_⟩
    · intro i p hi
      cases i with
      | zero => simp at hi; subst hi; exact B1
      | succ i => simp at hi
    · exact (((Fr.setCell w nb 2 _ (by simp)).comp (Fr.setCell _ nb 1 _ (by simp))).comp (Fr.setCell _ lb 0 _ (by simp))).comp (Fr.setCell _ lb 1 _ (by simp))
  · obtain ⟨m, hm⟩ : ∃ m, ns.length = m + 1 := ⟨init.length, by rw [hcc]; simp⟩
    clear hcc
    obtain ⟨⟨z, y⟩, hzy⟩ : ∃ p, ns[m]? = some p := ⟨_, List.getElem?_eq_getElem (by omega)⟩
    have hz := h.nodes m (z, y) hzy
    have hzn : z ≠ nb := fun e => HN.out (by subst e; exact List.mem_map_of_mem (List.mem_of_getElem? hzy))
    have hzl : lb ≠ z := blk_ne h.blk hz (by decide)
    have hzl' : z ≠ lb := Ne.symm hzl
    have hzn' : nb ≠ z := Ne.symm hzn
    have eid : idAt ns m = some ⟨z, 0, none⟩ := by unfold idAt; rw [hzy]; rfl
    have eno : idAt ns (m + 1) = none := idAt_ge (by omega)
    have fz := fun i => hz.frozen i
    have z2 : w.cell? ⟨z, 2, none⟩ = some (.pointer none) := by
      have := hz.cell 2
      rw [this, eno]; rfl
    have l1' : w.cell? ⟨lb, 1, none⟩ = some (.pointer (some ⟨z, 0, none⟩)) := by
      rw [l1, hm]
      show some (Value.pointer (idAt ns m)) = _
      rw [eid]
    clear l1
    have HM := Lib.hid (And.intro hm (And.intro hzy (And.intro eid eno)))
    have HH := Lib.hid (And.intro h (And.intro hb hz))
    clear h hb hz hm hzy eid eno
    generalize idAt ns 0 = fr at l0
    go_enter Try.func100, Try.ntmps100
    go_wp2_with fail
    go_end0
    obtain ⟨h, hb, hz⟩ := HH.out
    obtain ⟨hm, hzy, eid, eno⟩ := HM.out
    have B1 := ((((hb.set 2 (.pointer none)).set 1 (.pointer (some ⟨z, 0, none⟩))).far (c := z) (i := 2) (v := .pointer (some ⟨nb, 0, none⟩)) hzn').far (c := lb) (i := 1) (v := .pointer (some ⟨nb, 0, none⟩)) hne')
    have L1 := ((((h.blk.far (c := nb) (i := 2) (v := .pointer none) hne).far (c := nb) (i := 1) (v := .pointer (some ⟨z, 0, none⟩)) hne).far (c := z) (i := 2) (v := .pointer (some ⟨nb, 0, none⟩)) hzl).set 1 (.pointer (some ⟨nb, 0, none⟩)))
    have F1 := (((Fr.setCell (S := [lb, nb, z]) w nb 2 (.pointer none) (by simp)).comp (Fr.setCell _ nb 1 (.pointer (some ⟨z, 0, none⟩)) (by simp))).comp (Fr.setCell _ z 2 (.pointer (some ⟨nb, 0, none⟩)) (by simp))).comp (Fr.setCell _ lb 1 (.pointer (some ⟨nb, 0, none⟩)) (by simp))
    refine ⟨rfl, ⟨?_, ?_, ?_⟩, ?_⟩
    · rw [idAt_snoc, if_pos (by omega), List.length_append, List.length_singleton]
      show Blk _ _ #[_, .pointer (idAt _ _)] _
      rw [idAt_snoc, if_neg (by omega), if_pos rfl]
      exact L1
    · intro i p hi
      rcases Nat.lt_or_ge i ns.length with hlt | hge
      · rw [List.getElem?_append_left (by omega)] at hi
        rw [prevAt_snoc _ _ _ (by omega), idAt_snoc]
        have old := h.nodes i p hi
        rcases Nat.lt_or_ge i m with hl2 | hg2
        · rw [if_pos (by omega)]
          refine old.fr F1 ?_
          have q1 : p.1 ≠ lb := Ne.symm (blk_ne h.blk old (by decide))
          have q2 : p.1 ≠ nb := fun e => HN.out (by rw [← e]; exact List.mem_map_of_mem (List.mem_of_getElem? hi))
          have q3 : p.1 ≠ z := fun e => by
            have := ids_inj h.nodup hi hzy e
            omega
          simp [q1, q2, q3]
        · have ei : i = m := by omega
          subst ei
          rw [hzy] at hi
          cases hi
          rw [if_neg (by omega), if_pos (by omega)]
          exact (((hz.far (c := nb) (i := 2) (v := .pointer none) hzn).far (c := nb) (i := 1) (v := .pointer (some ⟨z, 0, none⟩)) hzn).set 2 (.pointer (some ⟨nb, 0, none⟩))).far hzl'
      · rw [List.getElem?_append_right (by omega)] at hi
        have ei : i = m + 1 := by
          have := (List.getElem?_eq_some_iff.1 hi).1
          simp at this; omega
        subst ei
        rw [show m + 1 - ns.length = 0 by omega] at hi
        simp at hi
        subst hi
        rw [prevAt_snoc _ _ _ (by omega)]
        have e1 : prevAt ns (m + 1) = some ⟨z, 0, none⟩ := eid
        have e2 : idAt (ns ++ [(nb, x)]) (m + 1 + 1) = none := idAt_ge (by simp; omega)
        rw [e1, e2]
        exact B1
    · rw [List.map_append, List.nodup_append]
      refine ⟨h.nodup, by simp, ?_⟩
      intro a ha b hb e
      simp at hb
      subst hb
      subst e
      exact HN.out ha
    · refine F1.mono fun a ha => .inl ?_
      simp at ha
      rcases ha with rfl | rfl | rfl
      · simp
      · simp
      · exact List.mem_cons_of_mem _ (List.mem_cons_of_mem _ (List.mem_map_of_mem (f := Prod.fst) (List.mem_of_getElem? hzy)))
set_option maxHeartbeats 1600000 in
theorem pushBack_calls (lb : Nat) (x : Int) (ns : List (Nat × Int)) (w : World) (h : DL w lb ns) :
    Calls Try.prog 78 #[.pointer (some ⟨lb, 0, none⟩), .int .i64 x] w fun e w' => e = .returned (.tuple #[]) ∧ DL w' lb (ns ++ [(w.heap.size, x)]) ∧ Fr (lb :: idsOf ns) w w' := by
  have hlt : ∀ a ∈ idsOf ns, a < w.heap.size := by
    intro a ha
    obtain ⟨p, hp, rfl⟩ := List.mem_map.1 ha
    obtain ⟨i, hi, rfl⟩ := List.getElem_of_mem hp
    exact (h.nodes i _ (List.getElem?_eq_getElem hi)).lt
  have HC := Lib.hid (pushBackNode_calls lb w.heap.size x ns (w.alloc (Obj.cells (nodeC x none none) 107)) (h.alloc _) (Blk.new _ _ _) (fun hx => absurd (hlt _ hx) (by omega)))
  clear h
  go_enter Try.func78, Try.ntmps78
  go_wp2_with fail
  refine HC.out.mono ?_
  rintro e w1 ⟨rfl, h1, f1⟩
  go_wp2_with fail
  go_end0
  refine ⟨rfl, h1, (Fr.alloc _ w _).trans f1 (fun _ h => .inl h) ?_⟩
  intro a ha
  simp at ha
  rcases ha with rfl | rfl | ha
  · simp
  · right; exact Nat.le_refl _
  · left; simp [ha]
set_option maxHeartbeats 1600000 in
theorem removeFront_calls (lb b : Nat) (x : Int) (ns : List (Nat × Int)) (w : World) (h : DL w lb ((b, x) :: ns)) :
    Calls Try.prog 80 #[.pointer (some ⟨lb, 0, none⟩), .pointer (some ⟨b, 0, none⟩)] w fun e w' => e = .returned (.tuple #[]) ∧ DL w' lb ns ∧ Fr (lb :: idsOf ns) w w' := by
  have hb := h.nodes 0 (b, x) rfl
  have hne : lb ≠ b := blk_ne h.blk hb (by decide)
  have fl := fun i => h.blk.frozen i
  have l0 : w.cell? ⟨lb, 0, none⟩ = some (.pointer (idAt ((b, x) :: ns) 0)) := h.blk.cell 0
  have l1 : w.cell? ⟨lb, 1, none⟩ = some (.pointer (prevAt ((b, x) :: ns) (ns.length + 1))) := h.blk.cell 1
  have b1 : w.cell? ⟨b, 1, none⟩ = some (.pointer none) := hb.cell 1
  have b2 : w.cell? ⟨b, 2, none⟩ = some (.pointer (idAt ns 0)) := hb.cell 2
  have nd := h.nodup
  rw [List.map_cons, List.nodup_cons] at nd
  cases ns with
  | nil =>
    have b2' : w.cell? ⟨b, 2, none⟩ = some (.pointer none) := b2
    clear b2
    have HH := Lib.hid h
    clear h hb
    go_enter Try.func80, Try.ntmps80
    go_wp2_with fail
    go_end0
    refine ⟨rfl, ⟨(HH.out.blk.set 1 (.pointer none)).set 0 (.pointer none), fun i p hi => by simp at hi, by simp⟩, (Fr.setCell w lb 1 _ (by simp)).comp (Fr.setCell _ lb 0 _ (by simp))⟩
  | cons c ns =>
    obtain ⟨c, y⟩ := c
    have hc := h.nodes 1 (c, y) rfl
    have hcl : lb ≠ c := blk_ne h.blk hc (by decide)
    have hcl' : c ≠ lb := Ne.symm hcl
    have hbc : b ≠ c := fun e => nd.1 (by rw [e]; simp)
    have hbc' : c ≠ b := Ne.symm hbc
    have fc := fun i => hc.frozen i
    have c1 : w.cell? ⟨c, 1, none⟩ = some (.pointer (some ⟨b, 0, none⟩)) := hc.cell 1
    have b2' : w.cell? ⟨b, 2, none⟩ = some (.pointer (some ⟨c, 0, none⟩)) := b2
    clear b2
    have HH := Lib.hid (And.intro h (And.intro hb hc))
    have HND := Lib.hid nd
    clear h hb hc nd
    generalize prevAt ((b, x) :: (c, y) :: ns) (((c, y) :: ns).length + 1) = bk at l1
    go_enter Try.func80, Try.ntmps80
    go_wp2_with fail
    go_region_with (fail)
    all_goals
      go_wp2_with fail
      go_end0
      obtain ⟨h, hb, hc⟩ := HH.out
      have hnd := HND.out
      have F1 := (Fr.setCell (S := [lb, c]) w c 1 (.pointer none) (by simp)).comp (Fr.setCell _ lb 0 (.pointer (some ⟨c, 0, none⟩)) (by simp))
      have D : DL ((w.setCell ⟨c, 1, none⟩ (.pointer none)).setCell ⟨lb, 0, none⟩ (.pointer (some ⟨c, 0, none⟩))) lb ((c, y) :: ns) := by
        refine ⟨(h.blk.far (c := c) (i := 1) (v := .pointer none) hcl).set 0 (.pointer (some ⟨c, 0, none⟩)), ?_, hnd.2⟩
        intro i p hi
        cases i with
        | zero =>
          simp at hi
          subst hi
          exact (hc.set 1 (.pointer none)).far hcl'
        | succ j =>
          have old := h.nodes (j + 2) p (by simpa using hi)
          have q1 : p.1 ≠ lb := Ne.symm (blk_ne h.blk old (by decide))
          have q2 : p.1 ≠ c := fun e => by
            have := ids_inj hnd.2 hi (show ((c, y) :: ns)[0]? = some (c, y) from rfl) e
            omega
          exact old.fr F1 (by simp [q1, q2])
      refine ⟨rfl, (D.fr (Fr.drewN [] _ 1) (by simp) (by simp) : DL (World.drewN _ 1) lb _), ((F1.mono ?_).comp (Fr.drewN _ _ 1) : Fr _ w (World.drewN _ 1))⟩
      intro a ha
      simp at ha
      rcases ha with rfl | rfl <;> simp [idsOf]
end Go.Proofs.Ytinajjceojfflaa
