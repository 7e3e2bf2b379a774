/- doubly linked lists: any node leaves, and comes in at either end. -/
import Derived.Test.YtinajjceojfflaaQOps
namespace Go.Proofs.Ytinajjceojfflaa
open Go.RowKit

theorem Blk.upd {w : World} {b : Nat} {cs : Array Value} {T : TypeId} (h : Blk w b cs T) (g i : Nat) (v : Value) : Blk (w.setCell ⟨g, i, none⟩ v) b (if b = g then cs.setIfInBounds i v else cs) T := by
  by_cases e : b = g
  · subst e; rw [if_pos rfl]; exact h.set i v
  · rw [if_neg e]; exact h.far e
theorem Blk.of {w : World} {b : Nat} {C D : Array Value} {T : TypeId} (h : Blk w b C T) (e : C = D) : Blk w b D T := e ▸ h
/-- the cell that names a node: a neighbour's, or the list's own. -/
def lk (o : Option Addr) (lb i j : Nat) : Addr := match o with
  | none => ⟨lb, i, none⟩
  | some a => ⟨a.block, j, none⟩
theorem Blk.lk {w : World} {b : Nat} {cs : Array Value} {T : TypeId} (h : Blk w b cs T) (o : Option Addr) (lb i j : Nat) (v : Value) : Blk (w.setCell (lk o lb i j) v) b (if b = (lk o lb i j).block then cs.setIfInBounds (lk o lb i j).off v else cs) T := by
  cases o <;> exact h.upd _ _ _
theorem lk_mem {w : World} {lb : Nat} {ns : List (Nat × Int)} (k i j : Nat) : (lk (idAt ns k) lb i j).block ∈ lb :: idsOf ns := by
  by_cases h : k < ns.length
  · rw [idAt_lt h]; exact List.mem_cons_of_mem _ (List.mem_map_of_mem (f := Prod.fst) (List.getElem_mem h))
  · rw [idAt_ge (by omega)]; simp [lk]
theorem DL.lk_node {w : World} {lb : Nat} {ns : List (Nat × Int)} (h : DL w lb ns) {o : Nat} {p : Nat × Int} (hp : ns[o]? = some p) (k i j : Nat) : (p.1 = (lk (idAt ns k) lb i j).block) = (o = k) := by
  by_cases hk : k < ns.length
  · rw [idAt_lt hk]
    exact propext ⟨fun e => ids_inj h.nodup hp (List.getElem?_eq_getElem hk) e, fun e => by subst e; rw [List.getElem?_eq_getElem hk] at hp; cases hp; rfl⟩
  · rw [idAt_ge (by omega)]
    have := (List.getElem?_eq_some_iff.1 hp).1
    exact propext ⟨fun e => absurd e (Ne.symm (blk_ne h.blk (h.nodes o p hp) (by decide))), fun e => by omega⟩
theorem DL.lk_head {w : World} {lb : Nat} {ns : List (Nat × Int)} (h : DL w lb ns) (k i j : Nat) : (lb = (lk (idAt ns k) lb i j).block) = (ns.length ≤ k) := by
  by_cases hk : k < ns.length
  · rw [idAt_lt hk]
    exact propext ⟨fun e => absurd e (blk_ne h.blk (h.nodes k _ (List.getElem?_eq_getElem hk)) (by decide)), fun e => by omega⟩
  · rw [idAt_ge (by omega)]
    exact propext ⟨fun _ => by omega, fun _ => rfl⟩
theorem DL.lkp_node {w : World} {lb : Nat} {ns : List (Nat × Int)} (h : DL w lb ns) {o : Nat} {p : Nat × Int} (hp : ns[o]? = some p) (k i j : Nat) : (p.1 = (lk (prevAt ns k) lb i j).block) = (o + 1 = k) := by
  cases k with
  | zero => exact propext ⟨fun e => absurd e (Ne.symm (blk_ne h.blk (h.nodes o p hp) (by decide))), fun e => by omega⟩
  | succ k =>
    show (p.1 = (lk (idAt ns k) lb i j).block) = _
    rw [h.lk_node hp]
    exact propext ⟨fun _ => by omega, fun _ => by omega⟩
theorem DL.lkp_head {w : World} {lb : Nat} {ns : List (Nat × Int)} (h : DL w lb ns) (k i j : Nat) (hk : k ≤ ns.length) : (lb = (lk (prevAt ns k) lb i j).block) = (k = 0) := by
  cases k with
  | zero => exact propext ⟨fun _ => rfl, fun _ => rfl⟩
  | succ k =>
    show (lb = (lk (idAt ns k) lb i j).block) = _
    rw [h.lk_head]
    exact propext ⟨fun _ => by omega, fun _ => by omega⟩
theorem lk_off (o : Option Addr) (lb i j : Nat) : (lk o lb i j).off = if o = none then i else j := by cases o <;> rfl
theorem idAt_none {ns : List (Nat × Int)} {k : Nat} : (idAt ns k = none) = (ns.length ≤ k) := by
  unfold idAt; simp
theorem prevAt_none {ns : List (Nat × Int)} {k : Nat} (hk : k ≤ ns.length) : (prevAt ns k = none) = (k = 0) := by
  cases k with
  | zero => simp [prevAt]
  | succ k => show (idAt ns k = none) = _; rw [idAt_none]; exact propext ⟨fun _ => by omega, fun _ => by omega⟩
theorem Fr.lk {S : List Nat} (w : World) (o : Option Addr) (lb i j : Nat) (v : Value) (h : (lk o lb i j).block ∈ S) : Fr S w (w.setCell (Go.Proofs.Ytinajjceojfflaa.lk o lb i j) v) := by
  cases o <;> exact Fr.setCell _ _ _ _ h
/-! a node leaves -/
theorem mid_get (A B : List (Nat × Int)) (q : Nat × Int) (i : Nat) : (A ++ B)[i]? = if i < A.length then (A ++ q :: B)[i]? else (A ++ q :: B)[i + 1]? := by
  split
  · rw [List.getElem?_append_left (by assumption), List.getElem?_append_left (by assumption)]
  · rw [List.getElem?_append_right (by omega), List.getElem?_append_right (by omega), show i + 1 - A.length = (i - A.length) + 1 by omega, List.getElem?_cons_succ]
theorem mid_id (A B : List (Nat × Int)) (q : Nat × Int) (i : Nat) : idAt (A ++ B) i = if i < A.length then idAt (A ++ q :: B) i else idAt (A ++ q :: B) (i + 1) := by
  unfold idAt; rw [mid_get A B q i]; split <;> rfl
theorem mid_prev (A B : List (Nat × Int)) (q : Nat × Int) (i : Nat) : prevAt (A ++ B) i = if i ≤ A.length then prevAt (A ++ q :: B) i else prevAt (A ++ q :: B) (i + 1) := by
  cases i with
  | zero => rw [if_pos (by omega)]; rfl
  | succ i =>
    show idAt _ i = _
    rw [mid_id A B q i]
    by_cases h : i < A.length
    · rw [if_pos h, if_pos (by omega)]; rfl
    · rw [if_neg h, if_neg (by omega)]; rfl
theorem DL.unlink {w : World} {lb : Nat} {A B : List (Nat × Int)} {b : Nat} {x : Int} (h : DL w lb (A ++ (b, x) :: B)) {nx pv : Option Addr} (hn : nx = idAt (A ++ (b, x) :: B) (A.length + 1)) (hp : pv = prevAt (A ++ (b, x) :: B) A.length) :
    let W := (w.setCell (lk nx lb 1 1) (.pointer pv)).setCell (lk pv lb 0 2) (.pointer nx)
    DL W lb (A ++ B) ∧ Blk W b (nodeC x pv nx) 107 ∧ Fr (lb :: idsOf (A ++ B)) w W := by
  have hm : (A ++ (b, x) :: B)[A.length]? = some (b, x) := by rw [List.getElem?_append_right (Nat.le_refl _), Nat.sub_self]; rfl
  have hlen : (A ++ (b, x) :: B).length = A.length + B.length + 1 := by simp; omega
  have eg := mid_get A B (b, x)
  have ei := mid_id A B (b, x)
  have ep := mid_prev A B (b, x)
  have hnd := h.nodup
  have hF : ∀ k i j, k ≠ A.length → (lk (idAt (A ++ (b, x) :: B) k) lb i j).block ∈ lb :: idsOf (A ++ B) := by
    intro k i j hk
    rcases Nat.lt_or_ge k A.length with h1 | h1
    · have := ei k
      rw [if_pos h1] at this
      rw [← this]; exact lk_mem (w := w) _ _ _
    · have := ei (k - 1)
      rw [if_neg (by omega), show k - 1 + 1 = k by omega] at this
      rw [← this]; exact lk_mem (w := w) _ _ _
  intro W
  have L := ((h.blk.lk nx lb 1 1 (.pointer pv)).lk pv lb 0 2 (.pointer nx))
  have M := (((h.nodes _ _ hm).lk nx lb 1 1 (.pointer pv)).lk pv lb 0 2 (.pointer nx))
  have N := fun i p hi => (((h.nodes i p hi).lk nx lb 1 1 (.pointer pv)).lk pv lb 0 2 (.pointer nx))
  obtain ⟨ns, hns⟩ : ∃ ns, ns = A ++ (b, x) :: B := ⟨_, rfl⟩
  rw [← hns] at h hn hp hm hlen hF L M
  simp only [← hns] at eg ei ep N
  refine ⟨⟨L.of ?_, fun i p hi => ?_, ?_⟩, M.of ?_, ?_⟩
  · subst hn hp
    rw [lk_off, lk_off]
    simp only [h.lk_head, h.lkp_head _ _ _ (show A.length ≤ ns.length by omega), idAt_none, prevAt_none (show A.length ≤ ns.length by omega)]
    rw [ei, ep, List.length_append, hlen]
    by_cases hA : A.length = 0 <;> by_cases hB : B.length = 0
    · simp only [if_pos hA, if_pos (show A.length + B.length + 1 ≤ A.length + 1 by omega), if_neg (show ¬ 0 < A.length by omega), if_pos (show A.length + B.length ≤ A.length by omega)]
      rw [hA, hB]; rfl
    · simp only [if_pos hA, if_neg (show ¬ A.length + B.length + 1 ≤ A.length + 1 by omega), if_neg (show ¬ 0 < A.length by omega), if_neg (show ¬ A.length + B.length ≤ A.length by omega)]
      rw [hA]; rfl
    · simp only [if_neg hA, if_pos (show A.length + B.length + 1 ≤ A.length + 1 by omega), if_pos (show 0 < A.length by omega), if_pos (show A.length + B.length ≤ A.length by omega)]
      rw [hB]; rfl
    · simp only [if_neg hA, if_neg (show ¬ A.length + B.length + 1 ≤ A.length + 1 by omega), if_pos (show 0 < A.length by omega), if_neg (show ¬ A.length + B.length ≤ A.length by omega)]
  · rw [eg] at hi
    by_cases hl : i < A.length
    · rw [if_pos hl] at hi
      refine (N i p hi).of ?_
      subst hn hp
      rw [lk_off, lk_off]
      simp only [h.lk_node hi, h.lkp_node hi, idAt_none, prevAt_none (show A.length ≤ ns.length by omega)]
      rw [ep i, if_pos (show i ≤ A.length by omega), ei (i + 1), if_neg (show ¬ i = A.length + 1 by omega)]
      by_cases h1 : i + 1 = A.length
      · rw [if_pos h1, if_neg (show ¬ A.length = 0 by omega), if_neg (show ¬ i + 1 < A.length by omega), h1]; rfl
      · rw [if_neg h1, if_pos (show i + 1 < A.length by omega)]
    · rw [if_neg hl] at hi
      refine (N (i + 1) p hi).of ?_
      subst hn hp
      have hil := (List.getElem?_eq_some_iff.1 hi).1
      rw [lk_off, lk_off]
      simp only [h.lk_node hi, h.lkp_node hi, idAt_none, prevAt_none (show A.length ≤ ns.length by omega)]
      rw [ep i, ei (i + 1), if_neg (show ¬ i + 1 + 1 = A.length by omega), if_neg (show ¬ i + 1 < A.length by omega)]
      by_cases h1 : i = A.length
      · rw [if_pos (show i + 1 = A.length + 1 by omega), if_neg (show ¬ ns.length ≤ A.length + 1 by omega), if_pos (show i ≤ A.length by omega), h1]; rfl
      · rw [if_neg (show ¬ i + 1 = A.length + 1 by omega), if_neg (show ¬ i ≤ A.length by omega)]
  · rw [List.map_append, List.map_cons] at hnd
    rw [List.map_append]
    exact hnd.sublist (List.Sublist.append_left (List.sublist_cons_self _ _) _)
  · subst hn hp
    simp only [h.lk_node hm, h.lkp_node hm]
    rw [if_neg (show ¬ A.length + 1 = A.length by omega), if_neg (show ¬ A.length = A.length + 1 by omega)]
  · subst hn hp
    refine (Fr.lk _ _ _ _ _ _ (hF _ _ _ (by omega))).comp (Fr.lk _ _ _ _ _ _ ?_)
    rcases hA : A.length with _ | k
    · simp [prevAt, lk]
    · exact hF k _ _ (by omega)
/-! a node comes in behind -/
theorem DL.linkB {w : World} {lb nb : Nat} {x : Int} {ns : List (Nat × Int)} {p n : Option Addr} (h : DL w lb ns) (hb : Blk w nb (nodeC x p n) 107) (hn : nb ∉ idsOf ns) {bk : Option Addr} (hk : bk = prevAt ns ns.length) :
    let W := (((w.setCell ⟨nb, 2, none⟩ (.pointer none)).setCell ⟨nb, 1, none⟩ (.pointer bk)).setCell (lk bk lb 0 2) (.pointer (some ⟨nb, 0, none⟩))).setCell ⟨lb, 1, none⟩ (.pointer (some ⟨nb, 0, none⟩))
    DL W lb (ns ++ [(nb, x)]) ∧ Fr (lb :: nb :: idsOf ns) w W := by
  have hne : lb ≠ nb := blk_ne h.blk hb (by decide)
  have hF : (lk (prevAt ns ns.length) lb 0 2).block ∈ lb :: idsOf ns := by
    cases ns.length with
    | zero => simp [prevAt, lk]
    | succ k => exact lk_mem (w := w) _ _ _
  intro W
  have L := ((((h.blk.upd nb 2 (.pointer none)).upd nb 1 (.pointer bk)).lk bk lb 0 2 (.pointer (some ⟨nb, 0, none⟩))).upd lb 1 (.pointer (some ⟨nb, 0, none⟩)))
  have M := ((((hb.upd nb 2 (.pointer none)).upd nb 1 (.pointer bk)).lk bk lb 0 2 (.pointer (some ⟨nb, 0, none⟩))).upd lb 1 (.pointer (some ⟨nb, 0, none⟩)))
  have N := fun i p hi => (((((h.nodes i p hi).upd nb 2 (.pointer none)).upd nb 1 (.pointer bk)).lk bk lb 0 2 (.pointer (some ⟨nb, 0, none⟩))).upd lb 1 (.pointer (some ⟨nb, 0, none⟩)))
  subst hk
  refine ⟨⟨L.of ?_, fun i p hi => ?_, ?_⟩, ?_⟩
  · rw [lk_off]
    simp only [h.lkp_head _ _ _ (Nat.le_refl _), prevAt_none (Nat.le_refl _), if_neg hne, if_pos rfl]
    rw [List.length_append, List.length_singleton, idAt_snoc]
    show _ = #[_, Value.pointer (idAt _ _)]
    rw [idAt_snoc, if_neg (show ¬ ns.length < ns.length by omega), if_pos rfl]
    by_cases h0 : ns.length = 0
    · simp only [if_pos h0, if_neg (show ¬ 0 < ns.length by omega), if_pos (show 0 = ns.length by omega)]; rfl
    · simp only [if_neg h0, if_pos (show 0 < ns.length by omega)]; rfl
  · rcases Nat.lt_or_ge i ns.length with hlt | hge
    · rw [List.getElem?_append_left (by omega)] at hi
      refine (N i p hi).of ?_
      have q1 : p.1 ≠ lb := Ne.symm (blk_ne h.blk (h.nodes i p hi) (by decide))
      have q2 : p.1 ≠ nb := fun e => hn (by rw [← e]; exact List.mem_map_of_mem (List.mem_of_getElem? hi))
      rw [lk_off]
      simp only [h.lkp_node hi, prevAt_none (Nat.le_refl _), if_neg q1, if_neg q2]
      rw [prevAt_snoc _ _ _ (by omega), idAt_snoc]
      by_cases h1 : i + 1 = ns.length
      · rw [if_pos h1, if_neg (show ¬ ns.length = 0 by omega), if_neg (show ¬ i + 1 < ns.length by omega), if_pos h1]; rfl
      · rw [if_neg h1, if_pos (show i + 1 < ns.length by omega)]
    · rw [List.getElem?_append_right (by omega)] at hi
      have ei : i = ns.length := by
        have := (List.getElem?_eq_some_iff.1 hi).1
        simp at this; omega
      subst ei
      rw [Nat.sub_self] at hi
      simp at hi
      subst hi
      refine M.of ?_
      rw [prevAt_snoc _ _ _ (by omega), idAt_snoc, if_neg (show ¬ ns.length + 1 < ns.length by omega), if_neg (show ¬ ns.length + 1 = ns.length by omega)]
      have hq : nb ≠ (lk (prevAt ns ns.length) lb 0 2).block := fun e => by
        rw [← e] at hF
        rcases List.mem_cons.1 hF with e | e
        · exact hne e.symm
        · exact hn e
      rw [if_neg (Ne.symm hne), if_neg hq, if_pos rfl, if_pos rfl]
      rfl
  · rw [List.map_append, List.nodup_append]
    refine ⟨h.nodup, by simp, ?_⟩
    intro a ha b hb e
    simp at hb
    subst hb
    subst e
    exact hn ha
  · refine ((((Fr.setCell (S := lb :: nb :: idsOf ns) w nb 2 _ (by simp)).comp (Fr.setCell _ nb 1 _ (by simp))).comp (Fr.lk _ _ _ _ _ _ ?_)).comp (Fr.setCell _ lb 1 _ (by simp)))
    rcases List.mem_cons.1 hF with e | e
    · rw [e]; simp
    · exact List.mem_cons_of_mem _ (List.mem_cons_of_mem _ e)
/-! a node comes in in front -/
theorem DL.linkF {w : World} {lb nb : Nat} {x : Int} {ns : List (Nat × Int)} {p n : Option Addr} (h : DL w lb ns) (hb : Blk w nb (nodeC x p n) 107) (hn : nb ∉ idsOf ns) {fr : Option Addr} (hk : fr = idAt ns 0) :
    let W := (((w.setCell ⟨nb, 2, none⟩ (.pointer fr)).setCell ⟨nb, 1, none⟩ (.pointer none)).setCell (lk fr lb 1 1) (.pointer (some ⟨nb, 0, none⟩))).setCell ⟨lb, 0, none⟩ (.pointer (some ⟨nb, 0, none⟩))
    DL W lb ((nb, x) :: ns) ∧ Fr (lb :: nb :: idsOf ns) w W := by
  have hne : lb ≠ nb := blk_ne h.blk hb (by decide)
  have hF : (lk (idAt ns 0) lb 1 1).block ∈ lb :: idsOf ns := lk_mem (w := w) _ _ _
  intro W
  have L := ((((h.blk.upd nb 2 (.pointer fr)).upd nb 1 (.pointer none)).lk fr lb 1 1 (.pointer (some ⟨nb, 0, none⟩))).upd lb 0 (.pointer (some ⟨nb, 0, none⟩)))
  have M := ((((hb.upd nb 2 (.pointer fr)).upd nb 1 (.pointer none)).lk fr lb 1 1 (.pointer (some ⟨nb, 0, none⟩))).upd lb 0 (.pointer (some ⟨nb, 0, none⟩)))
  have N := fun i p hi => (((((h.nodes i p hi).upd nb 2 (.pointer fr)).upd nb 1 (.pointer none)).lk fr lb 1 1 (.pointer (some ⟨nb, 0, none⟩))).upd lb 0 (.pointer (some ⟨nb, 0, none⟩)))
  subst hk
  refine ⟨⟨L.of ?_, fun i p hi => ?_, ?_⟩, ?_⟩
  · rw [lk_off]
    simp only [h.lk_head, idAt_none, if_neg hne, if_pos rfl]
    rw [List.length_cons]
    show _ = #[_, Value.pointer (idAt _ _)]
    rcases ns with _ | ⟨q, ns⟩
    · rfl
    · show _ = #[_, Value.pointer (idAt ((nb, x) :: q :: ns) (ns.length + 1))]
      rw [idAt_cons]
      simp only [if_neg (show ¬ (q :: ns).length ≤ 0 by simp)]
      rfl
  · cases i with
    | succ i =>
      rw [List.getElem?_cons_succ] at hi
      refine (N i p hi).of ?_
      have q1 : p.1 ≠ lb := Ne.symm (blk_ne h.blk (h.nodes i p hi) (by decide))
      have q2 : p.1 ≠ nb := fun e => hn (by rw [← e]; exact List.mem_map_of_mem (List.mem_of_getElem? hi))
      have hil := (List.getElem?_eq_some_iff.1 hi).1
      rw [lk_off]
      simp only [h.lk_node hi, idAt_none, if_neg q1, if_neg q2]
      rw [idAt_cons]
      show _ = nodeC _ (idAt _ _) _
      cases i with
      | zero => rw [if_pos rfl, if_neg (by omega)]; rfl
      | succ i => rw [if_neg (by omega), idAt_cons]; rfl
    | zero =>
      simp at hi
      subst hi
      refine M.of ?_
      have hq : nb ≠ (lk (idAt ns 0) lb 1 1).block := fun e => by
        rw [← e] at hF
        rcases List.mem_cons.1 hF with e | e
        · exact hne e.symm
        · exact hn e
      rw [if_neg (Ne.symm hne), if_neg hq, if_pos rfl, if_pos rfl, idAt_cons]
      rfl
  · rw [List.map_cons, List.nodup_cons]
    exact ⟨hn, h.nodup⟩
  · refine ((((Fr.setCell (S := lb :: nb :: idsOf ns) w nb 2 _ (by simp)).comp (Fr.setCell _ nb 1 _ (by simp))).comp (Fr.lk _ _ _ _ _ _ ?_)).comp (Fr.setCell _ lb 0 _ (by simp)))
    rcases List.mem_cons.1 hF with e | e
    · rw [e]; simp
    · exact List.mem_cons_of_mem _ (List.mem_cons_of_mem _ e)
end Go.Proofs.Ytinajjceojfflaa
