/- lists by definition (LineD), and impl.ring in memory. -/
import Derived.Test.YtinajjceojfflaaLB2
import Derived.Test.YtinajjceojfflaaSOps
namespace Go.Proofs.Ytinajjceojfflaa
open Go.RowKit

/-- a list by definition: the values of all nodes, and the nodes that are in it. -/
structure LineD where
  vals : List Int
  row : List Nat
def mayL (s : LineD) (a : StepD) : Prop :=
  if a.act = 2 ∨ a.act = 7 ∨ a.act = 8 then ∃ n ∈ s.row, (n : Int) = a.val
  else if a.act = 3 ∨ a.act = 4 then 0 ≤ a.val ∧ a.val < s.vals.length ∧ a.val.toNat ∉ s.row
  else True
def cutAt (l : List Nat) (i : Nat) : List Nat := l.take i ++ l.drop (i + 1)
def doL (s : LineD) (a : StepD) : LineD :=
  if a.act = 0 then ⟨s.vals ++ [a.key], s.row ++ [s.vals.length]⟩
  else if a.act = 1 then ⟨s.vals ++ [a.key], s.vals.length :: s.row⟩
  else if a.act = 2 then ⟨s.vals, cutAt s.row (s.row.idxOf a.val.toNat)⟩
  else if a.act = 3 then ⟨s.vals, s.row ++ [a.val.toNat]⟩
  else if a.act = 4 then ⟨s.vals, a.val.toNat :: s.row⟩
  else if a.act = 9 then ⟨s.vals ++ [a.key], s.row⟩
  else s
def rowV (s : LineD) : List Int := s.row.map (fun i => s.vals.getD i 0)
/-- what matters of what is told. -/
def keysL (s : LineD) (a : StepD) (ks : List Int) : Prop :=
  (a.act = 5 → ks = rowV s) ∧ (a.act = 6 → ks = (rowV s).reverse)
/-- a node of the list, by its number. -/
def pickN (ids : List (Nat × Int)) (i : Nat) : Nat × Int := ids.getD i (0, 0)
def ptrN (p : Nat × Int) : Value := .pointer (some ⟨p.1, 0, none⟩)
theorem pickN_get {ids : List (Nat × Int)} {i : Nat} (h : i < ids.length) : ids[i]? = some (pickN ids i) := by
  unfold pickN; rw [List.getD_eq_getElem?_getD, List.getElem?_eq_getElem h]; rfl
theorem pickN_snoc {ids : List (Nat × Int)} {q : Nat × Int} {i : Nat} (h : i < ids.length) : pickN (ids ++ [q]) i = pickN ids i := by
  unfold pickN; rw [List.getD_eq_getElem?_getD, List.getD_eq_getElem?_getD, List.getElem?_append_left h]
theorem pickN_last (ids : List (Nat × Int)) (q : Nat × Int) : pickN (ids ++ [q]) ids.length = q := by
  unfold pickN; rw [List.getD_eq_getElem?_getD, List.getElem?_append_right (Nat.le_refl _), Nat.sub_self]; rfl
theorem map_pick_snoc {ids : List (Nat × Int)} {q : Nat × Int} {row : List Nat} (h : ∀ i ∈ row, i < ids.length) : row.map (pickN (ids ++ [q])) = row.map (pickN ids) :=
  List.map_congr_left fun i hi => pickN_snoc (h i hi)
theorem pick_vals {ids : List (Nat × Int)} {row : List Nat} (h : ∀ i ∈ row, i < ids.length) : (row.map (pickN ids)).map Prod.snd = rowV ⟨ids.map Prod.snd, row⟩ := by
  unfold rowV
  rw [List.map_map]
  refine List.map_congr_left fun i hi => ?_
  have := h i hi
  simp [pickN, List.getD_eq_getElem?_getD, List.getElem?_eq_getElem this]
/-- the ring: ids all nodes, held those that its row of nodes has. -/
structure RingI (B : Nat) (w : World) (rb lb : Nat) (ids : List (Nat × Int)) (row : List Nat) (nv : Value) (held : List (Nat × Int)) : Prop where
  blk : Blk w rb #[.pointer (some ⟨lb, 0, none⟩), nv] 81
  nodes : w.ownsRow B 105 1 nv held.length (held.map ptrN)
  dl : DL w lb (row.map (pickN ids))
  all : ∀ (i : Nat) (p : Nat × Int), ids[i]? = some p → ∃ a b, Blk w p.1 (nodeC p.2 a b) 107
  rowlt : ∀ i ∈ row, i < ids.length
  gr : B ≤ rb
  gl : B ≤ lb
  gi : ∀ p ∈ ids, B ≤ p.1
  nd : (ids.map Prod.fst).Nodup
/-- what may be written. -/
def ringS (rb lb : Nat) (ids : List (Nat × Int)) (nv : Value) : List Nat := rb :: lb :: (idsOf ids ++ nv.ownBlock.toList)
theorem RingI.row_ids {B : Nat} {w : World} {rb lb : Nat} {ids : List (Nat × Int)} {row : List Nat} {nv : Value} {held : List (Nat × Int)} (h : RingI B w rb lb ids row nv held) : ∀ b ∈ idsOf (row.map (pickN ids)), b ∈ idsOf ids := by
  intro b hb
  obtain ⟨p, hp, rfl⟩ := List.mem_map.1 hb
  obtain ⟨i, hi, rfl⟩ := List.mem_map.1 hp
  exact List.mem_map_of_mem (f := Prod.fst) (List.mem_of_getElem? (pickN_get (h.rowlt i hi)))
theorem RingI.ty {B : Nat} {w : World} {rb lb : Nat} {ids : List (Nat × Int)} {row : List Nat} {nv : Value} {held : List (Nat × Int)} (h : RingI B w rb lb ids row nv held) : ∀ b ∈ ringS rb lb ids nv, B ≤ b ∧ b < w.heap.size ∧ ∃ cb T, Blk w b cb T ∧ T ≠ 31 ∧ T ≠ 3 := by
  intro b hb
  simp only [ringS, List.mem_cons, List.mem_append] at hb
  rcases hb with rfl | rfl | hb | hb
  · exact ⟨h.gr, h.blk.lt, _, _, h.blk, by decide, by decide⟩
  · exact ⟨h.gl, h.dl.blk.lt, _, _, h.dl.blk, by decide, by decide⟩
  · obtain ⟨p, hp, rfl⟩ := List.mem_map.1 hb
    obtain ⟨i, hi⟩ := List.getElem?_of_mem hp
    obtain ⟨a, c, hB⟩ := h.all i p hi
    exact ⟨h.gi p hp, hB.lt, _, _, hB, by decide, by decide⟩
  · obtain ⟨cur, hc, hg⟩ := own_ty h.nodes (show nv.ownBlock = some b by simpa using hb)
    exact ⟨hg, hc.lt, cur, _, hc, by decide, by decide⟩
theorem RingI.fr {B : Nat} {w w2 : World} {rb lb : Nat} {ids : List (Nat × Int)} {row : List Nat} {nv : Value} {held : List (Nat × Int)} (h : RingI B w rb lb ids row nv held) {S : List Nat} (hf : Fr S w w2) (hS : ∀ b ∈ S, b ∉ ringS rb lb ids nv) : RingI B w2 rb lb ids row nv held := by
  have hn : ∀ b ∈ ringS rb lb ids nv, b ∉ S := fun b hb hm => hS b hm hb
  refine ⟨h.blk.fr hf (hn _ (by simp [ringS])), own_fr h.nodes hf (fun b hb e => hS b hb (by simp [ringS, e])), h.dl.fr hf (hn _ (by simp [ringS])) (fun b hb => hn b ?_), fun i p hi => ?_, h.rowlt, h.gr, h.gl, h.gi, h.nd⟩
  · have := h.row_ids b hb
    simp [ringS, this]
  · obtain ⟨a, b, hB⟩ := h.all i p hi
    exact ⟨a, b, hB.fr hf (hn _ (by simp only [ringS, List.mem_cons, List.mem_append]; right; right; left; exact List.mem_map_of_mem (f := Prod.fst) (List.mem_of_getElem? hi)))⟩
theorem RingI.alloc {B : Nat} {w : World} {rb lb : Nat} {ids : List (Nat × Int)} {row : List Nat} {nv : Value} {held : List (Nat × Int)} (h : RingI B w rb lb ids row nv held) (o : Obj) : RingI B (w.alloc o) rb lb ids row nv held := h.fr (Fr.alloc [] w o) (by simp)
theorem RingI.ne {B : Nat} {w : World} {rb lb : Nat} {ids : List (Nat × Int)} {row : List Nat} {nv : Value} {held : List (Nat × Int)} (h : RingI B w rb lb ids row nv held) : rb ≠ lb ∧ rb ∉ idsOf ids ∧ lb ∉ idsOf ids ∧ nv.ownBlock ≠ some rb ∧ nv.ownBlock ≠ some lb ∧ ∀ b ∈ idsOf ids, nv.ownBlock ≠ some b := by
  have hi : ∀ b ∈ idsOf ids, ∃ cb, Blk w b cb 107 := by
    intro b hb
    obtain ⟨p, hp, rfl⟩ := List.mem_map.1 hb
    obtain ⟨i, hi⟩ := List.getElem?_of_mem hp
    obtain ⟨a, c, hB⟩ := h.all i p hi
    exact ⟨_, hB⟩
  have ho : ∀ b, nv.ownBlock = some b → ∃ cb, Blk w b cb 105 := by
    intro b hb
    obtain ⟨cur, hc, _⟩ := own_ty h.nodes hb
    exact ⟨_, hc⟩
  refine ⟨blk_ne h.blk h.dl.blk (by decide), fun e => ?_, fun e => ?_, fun e => ?_, fun e => ?_, fun b hb e => ?_⟩
  · obtain ⟨_, hb⟩ := hi _ e; exact absurd (Blk.ty h.blk hb) (by decide)
  · obtain ⟨_, hb⟩ := hi _ e; exact absurd (Blk.ty h.dl.blk hb) (by decide)
  · obtain ⟨_, hb⟩ := ho _ e; exact absurd (Blk.ty h.blk hb) (by decide)
  · obtain ⟨_, hb⟩ := ho _ e; exact absurd (Blk.ty h.dl.blk hb) (by decide)
  · obtain ⟨_, hb'⟩ := ho _ e; obtain ⟨_, hb⟩ := hi _ hb; exact absurd (Blk.ty hb hb') (by decide)
/-- the list has been changed. -/
theorem RingI.re {B : Nat} {w w2 : World} {rb lb : Nat} {ids : List (Nat × Int)} {row row' : List Nat} {nv : Value} {held : List (Nat × Int)} (h : RingI B w rb lb ids row nv held) {S : List Nat} (hf : Fr S w w2) (hr : ∀ i ∈ row', i < ids.length) (hd : DL w2 lb (row'.map (pickN ids)))
    (hS : ∀ b ∈ S, b = lb ∨ b ∈ idsOf (row'.map (pickN ids))) : RingI B w2 rb lb ids row' nv held ∧ Fr (ringS rb lb ids nv) w w2 := by
  obtain ⟨n1, n2, n3, n4, n5, n6⟩ := h.ne
  have hsub : ∀ b ∈ idsOf (row'.map (pickN ids)), b ∈ idsOf ids := by
    intro b hb
    obtain ⟨p, hp, rfl⟩ := List.mem_map.1 hb
    obtain ⟨i, hi, rfl⟩ := List.mem_map.1 hp
    exact List.mem_map_of_mem (f := Prod.fst) (List.mem_of_getElem? (pickN_get (hr i hi)))
  refine ⟨⟨h.blk.fr hf (fun e => (hS _ e).elim n1 (fun e => n2 (hsub _ e))), own_fr h.nodes hf (fun b hb e => ?_), hd, fun i p hi => ?_, hr, h.gr, h.gl, h.gi, h.nd⟩, hf.mono (fun b hb => .inl ?_)⟩
  · rcases hS b hb with rfl | hb
    · exact n5 e
    · exact n6 b (hsub b hb) e
  · by_cases hm : p.1 ∈ S
    · rcases hS _ hm with e | hb
      · exact absurd (List.mem_map_of_mem (f := Prod.fst) (List.mem_of_getElem? hi)) (e ▸ n3)
      · obtain ⟨q, hq, e⟩ := List.mem_map.1 hb
        obtain ⟨j, hj⟩ := List.getElem?_of_mem hq
        have hB := hd.nodes j q hj
        obtain ⟨k, hk, e2⟩ := List.mem_map.1 hq
        have hk2 := pickN_get (hr k hk)
        rw [e2] at hk2
        have := ids_inj h.nd hk2 hi e
        subst this
        rw [hk2] at hi
        cases hi
        exact ⟨_, _, hB⟩
    · obtain ⟨a, b, hB⟩ := h.all i p hi
      exact ⟨a, b, hB.fr hf hm⟩
  · rcases hS b hb with rfl | hb
    · simp [ringS]
    · have := hsub b hb
      simp [ringS, this]
/-- a node has been made. -/
theorem RingI.made {B : Nat} {w w2 : World} {rb lb : Nat} {ids : List (Nat × Int)} {row row' : List Nat} {nv : Value} {held : List (Nat × Int)} (h : RingI B w rb lb ids row nv held) (hB : B ≤ w.heap.size) {q : Nat × Int} (hq : w.heap.size ≤ q.1) {S : List Nat} (hf : Fr S w w2) (hr : ∀ i ∈ row', i < ids.length + 1) (hd : DL w2 lb (row'.map (pickN (ids ++ [q]))))
    (hq2 : ∃ a b, Blk w2 q.1 (nodeC q.2 a b) 107) (hS : ∀ b ∈ S, b = lb ∨ b ∈ idsOf (row.map (pickN ids))) (hrow : ∀ i ∈ row, i ∈ row') : RingI B w2 rb lb (ids ++ [q]) row' nv held ∧ Fr (ringS rb lb ids nv) w w2 := by
  obtain ⟨n1, n2, n3, n4, n5, n6⟩ := h.ne
  have hsub := h.row_ids
  refine ⟨⟨h.blk.fr hf (fun e => (hS _ e).elim n1 (fun e => n2 (hsub _ e))), own_fr h.nodes hf (fun b hb e => ?_), hd, fun i p hi => ?_, ?_, h.gr, h.gl, ?_, ?_⟩, hf.mono (fun b hb => .inl ?_)⟩
  · rcases hS b hb with rfl | hb
    · exact n5 e
    · exact n6 b (hsub b hb) e
  · rcases Nat.lt_or_ge i ids.length with hl | hl
    · have hi0 := hi
      rw [List.getElem?_append_left hl] at hi
      by_cases hm : p.1 ∈ S
      · rcases hS _ hm with e | hb
        · exact absurd (List.mem_map_of_mem (f := Prod.fst) (List.mem_of_getElem? hi)) (e ▸ n3)
        · obtain ⟨p', hp', e⟩ := List.mem_map.1 hb
          obtain ⟨k, hk, e2⟩ := List.mem_map.1 hp'
          have hk2 := pickN_get (h.rowlt k hk)
          rw [e2] at hk2
          have := ids_inj h.nd hk2 hi e
          subst this
          rw [hk2] at hi
          cases hi
          have hk3 : p ∈ row'.map (pickN (ids ++ [q])) := by
            rw [← e2, ← pickN_snoc (q := q) hl]
            exact List.mem_map_of_mem (hrow _ hk)
          obtain ⟨j, hj⟩ := List.getElem?_of_mem hk3
          exact ⟨_, _, hd.nodes j _ hj⟩
      · obtain ⟨a, b, hB⟩ := h.all i p hi
        exact ⟨a, b, hB.fr hf hm⟩
    · rw [List.getElem?_append_right hl] at hi
      have : i - ids.length = 0 := by
        have := (List.getElem?_eq_some_iff.1 hi).1
        simp at this; omega
      rw [this] at hi
      simp at hi
      subst hi
      exact hq2
  · intro i hi
    have := hr i hi
    rw [List.length_append, List.length_singleton]; omega
  · intro p hp
    rcases List.mem_append.1 hp with hp | hp
    · exact h.gi p hp
    · rw [List.mem_singleton.1 hp]; omega
  · rw [List.map_append, List.nodup_append]
    refine ⟨h.nd, by simp, fun a ha b hb e => ?_⟩
    simp at hb
    subst hb
    have := (h.ty a (by simp only [ringS, List.mem_cons, List.mem_append]; right; right; left; exact ha)).2.1
    omega
  · rcases hS b hb with rfl | hb
    · simp [ringS]
    · have := hsub b hb
      simp [ringS, this]
/-- a node has been written down. -/
theorem RingI.app {B : Nat} {w w3 : World} {rb lb : Nat} {ids : List (Nat × Int)} {row : List Nat} {nv v' : Value} {held : List (Nat × Int)} {q : Nat × Int} {wm : World} (h : RingI B w rb lb ids row nv held) (hm : Fr [] w wm)
    (ho : w3.ownsRow B 105 1 v' (held.length + 1) (held.map ptrN ++ [ptrN q])) (hg : wm.grownBy w3 nv.ownBlock) :
    RingI B (w3.setCell ⟨rb, 1, none⟩ v') rb lb ids row v' (held ++ [q]) ∧ Fr (ringS rb lb ids nv) w (w3.setCell ⟨rb, 1, none⟩ v') := by
  obtain ⟨n1, n2, n3, n4, n5, n6⟩ := h.ne
  have f1 : Fr nv.ownBlock.toList w w3 := hm.trans (S2 := nv.ownBlock.toList) ⟨hg.os, hg.tape, hg.output, hg.size, fun k hk hn => hg.block k hk (fun e => hn (by rw [← e]; simp))⟩ (fun _ h => by cases h) (fun _ h => .inl h)
  have fs : Fr [rb] w3 (w3.setCell ⟨rb, 1, none⟩ v') := Fr.setCell _ _ _ _ (by simp)
  have hb3 : Blk w3 rb _ _ := h.blk.fr f1 (by simpa using n4)
  have hd3 := h.dl.fr f1 (by simpa using n5) (fun b hb => by simpa using n6 b (h.row_ids b hb))
  refine ⟨⟨hb3.set 1 v', ?_, hd3.fr fs (by simpa using Ne.symm n1) (fun b hb e => n2 (by rw [List.mem_singleton] at e; rw [← e]; exact h.row_ids b hb)), fun i p hi => ?_, h.rowlt, h.gr, h.gl, h.gi, h.nd⟩, ?_⟩
  · rw [List.length_append, List.map_append]
    refine own_fr ho fs (fun b hb e => ?_)
    obtain ⟨cur, hc, _⟩ := own_ty ho e
    rw [List.mem_singleton.1 hb] at hc
    exact absurd (Blk.ty hc hb3) (by decide)
  · obtain ⟨a, b, hB⟩ := h.all i p hi
    have hm : p.1 ∈ idsOf ids := List.mem_map_of_mem (f := Prod.fst) (List.mem_of_getElem? hi)
    exact ⟨a, b, (hB.fr f1 (by simpa using n6 _ hm)).fr fs (fun e => n2 (by rw [List.mem_singleton] at e; rw [← e]; exact hm))⟩
  · exact (f1.mono (fun b hb => .inl (by simp [ringS, Option.mem_toList.1 hb]))).comp (Fr.setCell _ _ _ _ (by simp [ringS]))
theorem RingI.cells {B : Nat} {w : World} {rb lb : Nat} {ids : List (Nat × Int)} {row : List Nat} {nv : Value} {held : List (Nat × Int)} (h : RingI B w rb lb ids row nv held) :
    w.cell? ⟨rb, 0, none⟩ = some (.pointer (some ⟨lb, 0, none⟩)) ∧ w.cell? ⟨rb, 1, none⟩ = some nv ∧ w.cell? ⟨lb, 0, none⟩ = some (.pointer (idAt (row.map (pickN ids)) 0)) ∧ w.cell? ⟨lb, 1, none⟩ = some (.pointer (prevAt (row.map (pickN ids)) (row.map (pickN ids)).length)) ∧ rb < w.heap.size ∧ lb < w.heap.size :=
  ⟨h.blk.cell 0, h.blk.cell 1, h.dl.blk.cell 0, h.dl.blk.cell 1, h.blk.lt, h.dl.blk.lt⟩
end Go.Proofs.Ytinajjceojfflaa
