/- Bytes in a row of one's own, at whose end a mark may lie (a text turned into bytes has one), and one byte more. -/
import Derived.Test.YtlpcddmcddenfaaNX
import Derived.Laws.IdiomStrings
import Derived.OwnWalk
namespace Go.Proofs.Ytlpcddmcddenfaa.Kp
open Go.RowKit

def byteV (b : UInt8) : Value := .int .u8 b.toNat
def BRow (T : TypeId) (w : World) (B : Nat) (v : Value) (xs : List UInt8) : Prop :=
  (v = .slice none 0 0 ∧ xs = []) ∨ ∃ g cap cur fz, v = .slice (some ⟨g, 0, none⟩) xs.length cap ∧ B ≤ g ∧ w.heap[g]? = some (.cells cur T fz) ∧ (fz = (0, 0) ∨ cur.size ≤ fz.1) ∧ xs.length ≤ cap ∧ cap ≤ maxLen ∧ cur.size = cap ∧ cur.toList.take xs.length = xs.map byteV
theorem BRow.nil (T : TypeId) (w : World) (B : Nat) : BRow T w B (.slice none 0 0) [] := .inl ⟨rfl, rfl⟩
theorem BRow.form {T : TypeId} {w : World} {B : Nat} {v : Value} {xs : List UInt8} (h : BRow T w B v xs) : ∃ A c, v = .slice A xs.length c := by
  rcases h with ⟨rfl, rfl⟩ | ⟨g, cap, cur, fz, rfl, _⟩
  · exact ⟨none, 0, rfl⟩
  · exact ⟨_, _, rfl⟩
theorem BRow.lt {T : TypeId} {w : World} {B : Nat} {v : Value} {xs : List UInt8} (h : BRow T w B v xs) : ∀ k, v.ownBlock = some k → B ≤ k ∧ k < w.heap.size ∧ ∃ cur fz, w.heap[k]? = some (.cells cur T fz) := by
  intro k hk
  rcases h with ⟨rfl, rfl⟩ | ⟨g, cap, cur, fz, rfl, h1, h2, _⟩
  · cases hk
  · cases hk
    exact ⟨h1, (Array.getElem?_eq_some_iff.1 h2).1, _, _, h2⟩
theorem BRow.at_ {T : TypeId} {w w' : World} {B : Nat} {v : Value} {xs : List UInt8} (h : BRow T w B v xs) (hk : ∀ k, v.ownBlock = some k → w'.heap[k]? = w.heap[k]?) : BRow T w' B v xs := by
  rcases h with h | ⟨g, cap, cur, fz, rfl, h1, h2, h3⟩
  · exact .inl h
  · exact .inr ⟨g, cap, cur, fz, rfl, h1, (hk g rfl).trans h2, h3⟩
theorem BRow.mono {T : TypeId} {w : World} {B B' : Nat} {v : Value} {xs : List UInt8} (h : BRow T w B v xs) (hB : B' ≤ B) : BRow T w B' v xs := by
  rcases h with h | ⟨g, cap, cur, fz, rfl, h1, h2, h3⟩
  · exact .inl h
  · exact .inr ⟨g, cap, cur, fz, rfl, by omega, h2, h3⟩
section
variable {P : Program}
theorem run_storeByte (w : World) (g o : Nat) (T : TypeId) (cur : Array Value) (fz : Nat × Nat) (u : Value) (hg : w.heap[g]? = some (.cells cur T fz)) (hfz : fz = (0, 0) ∨ cur.size ≤ fz.1) (ho : o < cur.size) (h1 : u.oneCell' = true) :
    (storeCells ⟨g, o, none⟩ [u] 0).run P w = .ok () (w.setRow g (cur.setIfInBounds o u)) := by
  have hcell : w.cell? ⟨g, o, none⟩ = some cur[o] := by simp [World.cell?, hg, ho]
  have hfro : w.frozen? ⟨g, o, none⟩ = false := by
    rcases hfz with rfl | h
    · simp [World.frozen?, hg]
    · obtain ⟨lo, hi⟩ := fz
      simp only at h
      simp [World.frozen?, hg]
      omega
  have hst : (store ⟨g, o, none⟩ u).run P w = .ok () (w.setRow g (cur.setIfInBounds o u)) := by
    rw [run_store P w _ u _ h1, hcell]
    simp [hfro, setCell_eq_setRow w g o cur T fz u hg]
  have hadd : (⟨g, o, none⟩ : Addr).add 0 = ⟨g, o, none⟩ := rfl
  simp only [storeCells, hadd, Sem.run_bind, hst, Result.andThen_ok]
  rfl
theorem run_append_byte (w : World) (B : Nat) (T t ty : TypeId) (i : TypeInfo) (z : Value) (ht : P.underlying t = some (.slice T)) (hi : P.info? T = some i) (hz : i.zero = some z) (hs : i.size = 1) (hby : i.bytes = 1) (hzs : z.cells.size = 1)
    (v : Value) (xs : List UInt8) (h : BRow T w B v xs) (ad : Addr) (c : Nat) (b : UInt8) (hb : w.cell? ad = some (byteV b)) (had : ad.add 0 = ad) (hl : xs.length + 1 ≤ 140737488355328) (hB : B ≤ w.heap.size) :
    ∃ v' w', (Builtin.append_ #[t, t] ty #[v, .slice (some ad) 1 c]).run P w = .ok v' w' ∧ BRow T w' B v' (xs ++ [b]) ∧ BRow T w' B v xs ∧ w.grownBy w' v.ownBlock ∧
      ((v'.ownBlock = v.ownBlock ∧ ∃ g, v.ownBlock = some g) ∨ (v'.ownBlock = some w.heap.size ∧ ∀ k, k < w.heap.size → w'.heap[k]? = w.heap[k]?)) ∧
      (∀ w2 : World, BRow T w2 B v' (xs ++ [b]) → v'.ownBlock = v.ownBlock → BRow T w2 B v xs) := by
  have hnews : ∀ j u, [byteV b][j]? = some u → w.cell? (ad.add j) = some u := by
    intro j u hj
    cases j with
    | zero => simp at hj; subst hj; rw [had]; exact hb
    | succ j => simp at hj
  have h1 : ∀ u ∈ [byteV b], u.oneCell' = true := by intro u hu; rw [List.mem_singleton] at hu; subst hu; rfl
  have hml : xs.length + 1 ≤ maxLen := by unfold maxLen; omega
  -- a new block
  have fresh : ∀ (old : Nat) (v0 : Value) , old < xs.length + 1 → v0 = v →
      BRow T (w.drew.alloc (.cells ((xs.map byteV).toArray ++ [byteV b].toArray ++ Builtin.zeroCells z.cells (grownCap w (xs.length + 1) old T - (xs.length + 1))) T)) B (.slice (some ⟨w.heap.size, 0, none⟩) (xs.length + 1) (grownCap w (xs.length + 1) old T)) (xs ++ [b]) := by
    intro old v0 ho _
    have hge := grownCap_ge w (xs.length + 1) old T
    have hcm := grownCap_le_maxLen w (xs.length + 1) old T hml
    refine .inr ⟨w.heap.size, grownCap w (xs.length + 1) old T, _, (0, 0), by rw [List.length_append]; rfl, hB, heap_alloc_new w.drew _, .inl rfl, by rw [List.length_append]; exact hge, hcm, ?_, ?_⟩
    · simp only [Array.size_append, List.size_toArray, size_zeroCells, hzs, List.length_map, List.length_singleton]
      omega
    · simp only [Array.toList_append, List.append_assoc, List.length_append, List.length_singleton, List.map_append, List.map_cons, List.map_nil]
      rw [← List.append_assoc]
      exact List.take_left' (by simp)
  have fgr : ∀ (o : Obj) (row : Option Nat), w.grownBy (w.drew.alloc o) row := fun o row => ⟨rfl, rfl, rfl, by simp, fun k hk _ => Below.heap_alloc w.drew _ k hk⟩
  rcases h with ⟨rfl, rfl⟩ | ⟨g, cap, cur, fz, rfl, hbg, hg, hfz, hnc, hcm, hcs, htake⟩
  · have hr := run_append_nil (P := P) w t ty T i z ht hi hz ad 1 c [byteV b] (by rw [hs]; rfl) hnews (by omega) (by omega) (by rw [hby]; omega)
    refine ⟨_, _, hr, ?_, .inl ⟨rfl, rfl⟩, fgr _ _, .inr ⟨rfl, fun k hk => Below.heap_alloc w.drew _ k hk⟩, fun _ _ e => by cases e⟩
    have := fresh 0 (.slice none 0 0) (by simp) rfl
    simpa using this
  · by_cases hroom : xs.length + 1 ≤ cap
    · have hf := run_firstCells_some (P := P) w i.size 1 ad 1 c [byteV b] (by rw [hs]; rfl) hnews
      have hst := run_storeByte (P := P) w g xs.length T cur fz (byteV b) hg hfz (by omega) rfl
      have hrun : (Builtin.append_ #[t, t] ty #[.slice (some ⟨g, 0, none⟩) xs.length cap, .slice (some ad) 1 c]).run P w = .ok (.slice (some ⟨g, 0, none⟩) (xs.length + 1) cap) (w.setRow g (cur.setIfInBounds xs.length (byteV b))) := by
        rw [hs] at hf
        simp [Builtin.append_, run_underlying ht, sizeOf, typeInfo, hi, hs, Builtin.lenOf, hroom, hf, Addr.add_lit, hst]
      have hnew : (cur.setIfInBounds xs.length (byteV b)).toList.take (xs.length + 1) = (xs ++ [b]).map byteV := by
        rw [Array.toList_setIfInBounds, List.take_add_one, List.take_set_of_le (Nat.le_refl _), htake, List.map_append, List.getElem?_set_self (by simpa using (by omega : xs.length < cur.size))]
        rfl
      have keep : ∀ w2 : World, BRow T w2 B (.slice (some ⟨g, 0, none⟩) (xs.length + 1) cap) (xs ++ [b]) → BRow T w2 B (.slice (some ⟨g, 0, none⟩) xs.length cap) xs := by
        rintro w2 (⟨e, _⟩ | ⟨g', cap', cur', fz', e, q1, q2, q3, q4, q5, q6, q7⟩)
        · cases e
        · obtain ⟨rfl, rfl⟩ : g = g' ∧ cap = cap' := by simpa using e
          rw [List.length_append, List.length_singleton] at q4 q7
          refine .inr ⟨g, cap, cur', fz', rfl, q1, q2, q3, by omega, q5, q6, ?_⟩
          have := congrArg (List.take xs.length) q7
          rw [List.take_take, Nat.min_eq_left (by omega), List.map_append] at this
          rw [this]
          exact List.take_left' (by simp)
      have hB' : BRow T (w.setRow g (cur.setIfInBounds xs.length (byteV b))) B (.slice (some ⟨g, 0, none⟩) (xs.length + 1) cap) (xs ++ [b]) := by
        refine .inr ⟨g, cap, _, fz, by rw [List.length_append]; rfl, hbg, setRow_heap w g cur _ T fz hg, ?_, by rw [List.length_append]; exact hroom, hcm, by rw [Array.size_setIfInBounds]; exact hcs, by rw [List.length_append]; exact hnew⟩
        rw [Array.size_setIfInBounds]; exact hfz
      exact ⟨_, _, hrun, hB', keep _ hB', ⟨rfl, rfl, rfl, by simp, fun k _ hk => setRow_other w g k _ (fun e => hk (by simp [Value.ownBlock, e]))⟩, .inl ⟨rfl, g, rfl⟩, fun w2 h2 _ => keep w2 h2⟩
    · have holds : ∀ j u, (xs.map byteV)[j]? = some u → w.cell? ((⟨g, 0, none⟩ : Addr).add j) = some u := by
        intro j u hu
        have hadd : (⟨g, 0, none⟩ : Addr).add j = ⟨g, j, none⟩ := by unfold Addr.add; split <;> simp_all
        rw [hadd, cell_of_row w g j cur T fz hg]
        rw [← htake, List.getElem?_take] at hu
        split at hu
        · simpa using hu
        · cases hu
      have hr := run_append_grow (P := P) w t ty T i z ht hi hz ⟨g, 0, none⟩ xs.length cap (xs.map byteV) (by rw [hs]; simp) holds ad 1 c [byteV b] (by rw [hs]; rfl) hnews (by omega) (by omega) (growslice_fits (by omega) (by rw [hby]; omega))
      refine ⟨_, _, hr, fresh cap _ (by omega) rfl, ?_, fgr _ _, .inr ⟨rfl, fun k hk => Below.heap_alloc w.drew _ k hk⟩, fun _ _ e => ?_⟩
      · exact .inr ⟨g, cap, cur, fz, rfl, hbg, (Below.heap_alloc w.drew _ g (Array.getElem?_eq_some_iff.1 hg).1).trans hg, hfz, hnc, hcm, hcs, htake⟩
      · have : w.heap.size = g := by simpa [Value.ownBlock] using e
        have := (Array.getElem?_eq_some_iff.1 hg).1
        omega
theorem wpList_append_byte {w : World} {ops : Array Oper} {rest : List Oper} {o : Oper} {a : Act} {Q : Exit → Act → World → Prop} (hgd : o.guard = none) (s x : Operand) (t : TypeId)
    (ho : o.op = .call { callee := .builtin .append, args := #[s, x], argTypes := #[t, t] })
    (B : Nat) (T : TypeId) (i : TypeInfo) (z : Value) (ht : P.underlying t = some (.slice T)) (hi : P.info? T = some i) (hz : i.zero = some z) (hs : i.size = 1) (hby : i.bytes = 1) (hzs : z.cells.size = 1)
    (v : Value) (xs : List UInt8) (hv : a.eval s = v) (h : BRow T w B v xs) (ad : Addr) (c : Nat) (b : UInt8) (hx : a.eval x = .slice (some ad) 1 c) (hb : w.cell? ad = some (byteV b)) (had : ad.add 0 = ad) (hl : xs.length + 1 ≤ 140737488355328) (hB : B ≤ w.heap.size)
    (hk : ∀ v' w', BRow T w' B v' (xs ++ [b]) → BRow T w' B v xs → w.grownBy w' v.ownBlock → ((v'.ownBlock = v.ownBlock ∧ ∃ g, v.ownBlock = some g) ∨ (v'.ownBlock = some w.heap.size ∧ ∀ k, k < w.heap.size → w'.heap[k]? = w.heap[k]?)) →
      (∀ w2 : World, BRow T w2 B v' (xs ++ [b]) → v'.ownBlock = v.ownBlock → BRow T w2 B v xs) → wpList P ops Q rest (a.put o.dst v') w') : wpList P ops Q (o :: rest) a w := by
  refine wpList_plain hgd fun K hK => ?_
  obtain ⟨v', w', hr, h2, h3, h4, h5, h6⟩ := run_append_byte (P := P) w B T t o.type i z ht hi hz hs hby hzs v xs h ad c b hb had hl hB
  unfold Oper.wp execOp
  simp only [ho, resolve, invoke, builtin, Sem.run_bind, Sem.run_pure, Result.andThen_ok, List.map_toArray, List.map_cons, List.map_nil, hv, hx, hr]
  exact hK _ _ (hk v' w' h2 h3 h4 h5 h6)
/-- bytes as a text. -/
theorem run_bytes_text (w : World) {B : Nat} {src dst T : TypeId} {v : Value} {xs : List UInt8} (hs : P.underlying src = some (.slice T)) (he : P.underlying T = some (.int .u8)) (hd : P.underlying dst = some .string) (h : BRow T w B v xs) :
    (convert src dst v).run P w = .ok (.string ⟨xs.toArray⟩) w := by
  rcases h with ⟨rfl, rfl⟩ | ⟨g, cap, cur, fz, rfl, h1, h2, h3, h4, h5, h6, h7⟩
  · rw [run_convert_bytes_nil w src T hs he _ _ dst hd]; rfl
  · refine run_convert_bytes_back w src dst T _ cap xs hs he hd (fun j hj => ?_)
    have hx : (xs.map byteV)[j]? = some (byteV xs[j]) := by rw [List.getElem?_map, List.getElem?_eq_getElem hj]; rfl
    rw [← h7, List.getElem?_take_of_lt (by omega)] at hx
    rw [show (⟨g, 0, none⟩ : Addr).add j = ⟨g, j, none⟩ by unfold Addr.add; split <;> simp_all, cell_of_row w g j cur T fz h2]
    simpa [byteV] using hx
end
end Go.Proofs.Ytlpcddmcddenfaa.Kp
