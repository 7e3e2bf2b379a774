/- tries in memory: a row of texts that grows, and a row of bytes beside it. -/
import Derived.Test.YtlpcddmcddenfaaTriRm
import Derived.Test.YtlpcddmcddenfaaBRow
namespace Go.Proofs.Ytlpcddmcddenfaa.Kp
open Go.RowKit Tri

def ob (v : Value) : List Nat := v.ownBlock.toList
theorem mem_ob {v : Value} {x : Nat} : x ∈ ob v ↔ v.ownBlock = some x := by
  unfold ob; cases v.ownBlock <;> simp [eq_comm]
theorem own_at {w w' : World} {B : Nat} {e : TypeId} {s n : Nat} {v : Value} {xs : List Value} (h : w.ownsRow B e s v n xs) (hk : ∀ k, v.ownBlock = some k → w'.heap[k]? = w.heap[k]?) : w'.ownsRow B e s v n xs := by
  refine ⟨h.1, h.2.imp id ?_⟩
  rintro ⟨g, cap, cur, rfl, e2, e3, e4⟩
  exact ⟨g, cap, cur, rfl, e2, (hk g rfl).trans e3, e4⟩
theorem own_blk {w : World} {B : Nat} {e : TypeId} {s n : Nat} {v : Value} {xs : List Value} (h : w.ownsRow B e s v n xs) : ∀ k, v.ownBlock = some k → ∃ cur, Blk w k cur e := by
  intro k hk
  rcases h.2 with ⟨rfl, _⟩ | ⟨g, cap, cur, rfl, e2, e3, e4⟩
  · cases hk
  · cases hk; exact ⟨cur, e3⟩
theorem heap_lt {w : World} {k : Nat} {o : Obj} (h : w.heap[k]? = some o) : k < w.heap.size := (Array.getElem?_eq_some_iff.1 h).1
theorem apart_pq {w : World} {B B' : Nat} {T e : TypeId} {s n : Nat} {pv q : Value} {xs : Txt} {ks : List Value} (hp : BRow T w B pv xs) (hq : w.ownsRow B' e s q n ks) (hT : T ≠ e) : ∀ k, pv.ownBlock = some k → q.ownBlock = some k → False := by
  intro k h1 h2
  obtain ⟨_, _, cur, fz, h3⟩ := hp.lt k h1
  obtain ⟨cur', h4⟩ := own_blk hq k h2
  unfold Blk at h4
  rw [h3] at h4
  simp at h4
  exact hT h4.2.1
theorem Fr.of_grown {w w' : World} {v : Value} (h : w.grownBy w' v.ownBlock) : Fr (ob v) w w' := ⟨h.os, h.tape, h.output, h.size, fun k hk hn => h.block k hk (fun e => hn (mem_ob.2 e.symm))⟩
theorem Fr.grownBy {w w' : World} {S : List Nat} (h : Fr S w w') {k : Nat} (hk : k < w.heap.size) (hn : k ∉ S) : w'.heap[k]? = w.heap[k]? := h.block k hk hn

/-- in the midst of collect. -/
structure CQ (B : Nat) (w0 : World) (pv qv : Value) (xs : Txt) (q : Value) (ks : List Txt) (W : World) : Prop where
  br : BRow 5 W B pv xs
  own : W.ownsRow B 9 1 q ks.length (ks.map str)
  fr : Fr (ob pv ++ ob qv) w0 W
  new : ∀ x ∈ ob q, x ∈ ob qv ∨ w0.heap.size ≤ x
theorem CQ.start {B : Nat} {w : World} {pv qv : Value} {xs : Txt} {ks : List Txt} (h : BRow 5 w B pv xs) (k : w.ownsRow B 9 1 qv ks.length (ks.map str)) : CQ B w pv qv xs qv ks w := ⟨h, k, Fr.refl _ _, fun _ h => .inl h⟩
theorem CQ.comp {B : Nat} {w0 W W' : World} {pv qv q1 q2 : Value} {xs : Txt} {ks1 ks2 : List Txt} (h : CQ B w0 pv qv xs q1 ks1 W) (k : CQ B W pv q1 xs q2 ks2 W') : CQ B w0 pv qv xs q2 ks2 W' := by
  refine ⟨k.br, k.own, h.fr.trans k.fr (fun _ hx => .inl hx) (fun x hx => ?_), fun x hx => ?_⟩
  · rcases List.mem_append.1 hx with hx | hx
    · exact .inl (List.mem_append_left _ hx)
    · exact (h.new x hx).imp (fun hx => List.mem_append_right _ hx) id
  · rcases k.new x hx with hx | hx
    · exact h.new x hx
    · exact .inr (Nat.le_trans h.fr.size hx)
theorem not_byte {w : World} {B : Nat} {pv : Value} {xs : Txt} {t : TN} (h : BRow 5 w B pv xs) (ht : t.In w) : ∀ x ∈ t.ids, pv.ownBlock ≠ some x := by
  induction t with
  | nil => intro x hx; cases hx
  | node p c l m r v b h1 h2 h3 =>
    intro x hx e
    rcases mem_ids.1 hx with rfl | hx | hx | hx
    · obtain ⟨_, _, cur, fz, h4⟩ := h.lt _ e
      have := ht.1
      unfold Blk at this
      rw [h4] at this
      simp at this
    · exact h1 ht.2.1 x hx e
    · exact h2 ht.2.2.1 x hx e
    · exact h3 ht.2.2.2 x hx e
theorem not_text {w : World} {B n : Nat} {q : Value} {ks : List Value} {t : TN} (h : w.ownsRow B 9 1 q n ks) (ht : t.In w) : ∀ x ∈ t.ids, q.ownBlock ≠ some x := by
  induction t with
  | nil => intro x hx; cases hx
  | node p c l m r v b h1 h2 h3 =>
    intro x hx e
    rcases mem_ids.1 hx with rfl | hx | hx | hx
    · obtain ⟨cur, h4⟩ := own_blk h _ e
      have := ht.1
      unfold Blk at this h4
      rw [h4] at this
      simp at this
    · exact h1 ht.2.1 x hx e
    · exact h2 ht.2.2.1 x hx e
    · exact h3 ht.2.2.2 x hx e
theorem CQ.trie {B : Nat} {w0 W : World} {pv qv q : Value} {xs : Txt} {ks0 ks : List Txt} (h : CQ B w0 pv qv xs q ks W) (hb : BRow 5 w0 B pv xs) (ho : w0.ownsRow B 9 1 qv ks0.length (ks0.map str)) {t : TN} (ht : t.In w0) : t.In W :=
  ht.fr h.fr (fun x hx hm => by
    rcases List.mem_append.1 hm with hm | hm
    · exact not_byte hb ht x hx (mem_ob.1 hm)
    · exact not_text ho ht x hx (mem_ob.1 hm))
/-- a new block, and a byte more at the bytes' end. -/
structure CW (B : Nat) (w0 : World) (pv qv : Value) (xs : Txt) (c : UInt8) (q : Value) (ks : List Txt) (v : Value) (W : World) : Prop where
  cq : CQ B w0 pv qv xs q ks W
  br : BRow 5 W B v (xs ++ [c])
  is : (v.ownBlock = pv.ownBlock) ∨ ∀ k, v.ownBlock = some k → pv.ownBlock ≠ some k ∧ w0.heap.size ≤ k
  keep : ∀ w2 : World, BRow 5 w2 B v (xs ++ [c]) → v.ownBlock = pv.ownBlock → BRow 5 w2 B pv xs
theorem CQ.alloc {B : Nat} {w0 W : World} {pv qv q : Value} {xs : Txt} {ks : List Txt} (h : CQ B w0 pv qv xs q ks W) (o : Obj) : CQ B w0 pv qv xs q ks (W.alloc o) := by
  refine ⟨h.br.at_ fun k hk => Below.heap_alloc _ _ _ (h.br.lt k hk).2.1, own_at h.own fun k hk => ?_, h.fr.comp (Fr.alloc _ _ _), h.new⟩
  obtain ⟨cur, hb⟩ := own_blk h.own k hk
  exact Below.heap_alloc _ _ _ hb.lt
theorem CQ.drewN {B : Nat} {w0 W : World} {pv qv q : Value} {xs : Txt} {ks : List Txt} (h : CQ B w0 pv qv xs q ks W) (n : Nat) : CQ B w0 pv qv xs q ks (W.drewN n) := ⟨h.br, h.own, h.fr.comp (Fr.drewN _ _ _), h.new⟩
theorem CQ.byte {B : Nat} {w0 W W2 : World} {pv qv q v : Value} {xs : Txt} {c : UInt8} {ks : List Txt} (h : CQ B w0 pv qv xs q ks W) (h1 : BRow 5 W2 B v (xs ++ [c])) (h2 : BRow 5 W2 B pv xs) (h3 : W.grownBy W2 pv.ownBlock)
    (h4 : (v.ownBlock = pv.ownBlock ∧ ∃ g, pv.ownBlock = some g) ∨ (v.ownBlock = some W.heap.size ∧ ∀ k, k < W.heap.size → W2.heap[k]? = W.heap[k]?))
    (h5 : ∀ w2 : World, BRow 5 w2 B v (xs ++ [c]) → v.ownBlock = pv.ownBlock → BRow 5 w2 B pv xs) : CW B w0 pv qv xs c q ks v W2 := by
  refine ⟨⟨h2, own_at h.own fun k hk => ?_, h.fr.trans (Fr.of_grown h3) (fun _ hx => .inl hx) (fun x hx => .inl (List.mem_append_left _ hx)), h.new⟩, h1, h4.imp (fun h => h.1) (fun h4 k hk => ?_), h5⟩
  · obtain ⟨cur, hb⟩ := own_blk h.own k hk
    exact h3.block k hb.lt (fun e => apart_pq h.br h.own (by decide) k e.symm hk)
  · rw [h4.1] at hk
    cases hk
    refine ⟨fun e => ?_, h.fr.size⟩
    have := (h.br.lt _ e).2.1
    omega
/-- the text is told. -/
theorem CW.word {B : Nat} {w0 W W' : World} {pv qv q v : Value} {xs : Txt} {c : UInt8} {ks : List Txt} {g cap : Nat} (h : CW B w0 pv qv xs c q ks v W) (o : W'.ownsRow B 9 1 (.slice (some ⟨g, 0, none⟩) (ks.length + 1) cap) (ks.length + 1) (ks.map str ++ [str (xs ++ [c])]))
    (hg : W.grownBy W' q.ownBlock) (hi : q.ownBlock = some g ∨ g = W.heap.size) : CQ B w0 pv qv xs (.slice (some ⟨g, 0, none⟩) (ks.length + 1) cap) (ks ++ [xs ++ [c]]) W' := by
  refine ⟨h.cq.br.at_ fun k hk => hg.block k (h.cq.br.lt k hk).2.1 (fun e => apart_pq h.cq.br h.cq.own (by decide) k hk e.symm), ?_, h.cq.fr.trans (Fr.of_grown hg) (fun _ hx => .inl hx) (fun x hx => ?_), fun x hx => ?_⟩
  · rw [List.length_append, List.length_singleton, List.map_append]; exact o
  · exact (h.cq.new x hx).imp (fun h => List.mem_append_right _ h) id
  · have e : g = x := by simpa [ob, Value.ownBlock, eq_comm] using hx
    subst e
    rcases hi with hi | hi
    · exact h.cq.new g (mem_ob.2 hi)
    · rw [hi]; exact .inr h.cq.fr.size
/-- behind a call with the longer bytes. -/
theorem CW.mid {B : Nat} {w0 W W' : World} {pv qv q q2 v : Value} {xs : Txt} {c : UInt8} {ks ks2 : List Txt} (h : CW B w0 pv qv xs c q ks v W) (k : CQ B W v q (xs ++ [c]) q2 ks2 W') : CQ B w0 pv qv xs q2 ks2 W' := by
  refine ⟨?_, k.own, h.cq.fr.trans k.fr (fun _ hx => .inl hx) (fun x hx => ?_), fun x hx => ?_⟩
  · rcases h.is with e | e
    · exact h.keep _ k.br e
    · refine h.cq.br.at_ fun i hi => k.fr.block i (h.cq.br.lt i hi).2.1 (fun hm => ?_)
      rcases List.mem_append.1 hm with hm | hm
      · exact (e i (mem_ob.1 hm)).1 hi
      · exact apart_pq h.cq.br h.cq.own (by decide) i hi (mem_ob.1 hm)
  · rcases List.mem_append.1 hx with hx | hx
    · rcases h.is with e | e
      · exact .inl (List.mem_append_left _ (mem_ob.2 (e ▸ mem_ob.1 hx)))
      · exact .inr (e x (mem_ob.1 hx)).2
    · exact (h.cq.new x hx).imp (fun h => List.mem_append_right _ h) id
  · rcases k.new x hx with hx | hx
    · exact h.cq.new x hx
    · exact .inr (Nat.le_trans h.cq.fr.size hx)
theorem step_append_byte {P : Program} {w : World} {ops : Array Oper} {o : Oper} {a : Act} {K : Act → World → Prop} {Q : Exit → Act → World → Prop} {E : Prop} (hgd : o.guard = none) (s x : Operand) (t : TypeId)
    (ho : o.op = .call { callee := .builtin .append, args := #[s, x], argTypes := #[t, t] })
    (B : Nat) (T : TypeId) (i : TypeInfo) (z : Value) (ht : P.underlying t = some (.slice T)) (hi : P.info? T = some i) (hz : i.zero = some z) (hs : i.size = 1) (hby : i.bytes = 1) (hzs : z.cells.size = 1)
    (v : Value) (xs : List UInt8) (hv : a.eval s = v) (h : BRow T w B v xs) (ad : Addr) (c : Nat) (b : UInt8) (hx : a.eval x = .slice (some ad) 1 c) (hb : w.cell? ad = some (byteV b)) (had : ad.add 0 = ad) (hl : xs.length + 1 ≤ 140737488355328) (hB : B ≤ w.heap.size)
    (hk : ∀ v' w', BRow T w' B v' (xs ++ [b]) → BRow T w' B v xs → w.grownBy w' v.ownBlock → ((v'.ownBlock = v.ownBlock ∧ ∃ g, v.ownBlock = some g) ∨ (v'.ownBlock = some w.heap.size ∧ ∀ k, k < w.heap.size → w'.heap[k]? = w.heap[k]?)) →
      (∀ w2 : World, BRow T w2 B v' (xs ++ [b]) → v'.ownBlock = v.ownBlock → BRow T w2 B v xs) → K (a.put o.dst v') w') : if Region.wanted o (yielded ops a.tmps) = true then Oper.wp P o a w K Q else E := by
  have hw : Region.wanted o (yielded ops a.tmps) = true := by simp [Region.wanted, hgd]
  rw [if_pos hw]
  obtain ⟨v', w', hr, h2, h3, h4, h5, h6⟩ := run_append_byte (P := P) w B T t o.type i z ht hi hz hs hby hzs v xs h ad c b hb had hl hB
  unfold Oper.wp execOp
  simp only [ho, resolve, invoke, builtin, Sem.run_bind, Sem.run_pure, Result.andThen_ok, List.map_toArray, List.map_cons, List.map_nil, hv, hx, hr]
  exact hk _ _ h2 h3 h4 h5 h6
theorem step_call {P : Program} {ops : Array Oper} {o : Oper} {a : Act} {w : World} {K : Act → World → Prop} {Q : Exit → Act → World → Prop} {E : Prop} (hgd : o.guard = none) (f : FuncId) (args : Array Value)
    (hrun : (execOp a.eval o).run P w = .ok (.enter f args) w) (hc : Calls P f args w fun e w' => ∃ v, e = .returned v ∧ K (a.put o.dst v) w') : if Region.wanted o (yielded ops a.tmps) = true then Oper.wp P o a w K Q else E := by
  have hw : Region.wanted o (yielded ops a.tmps) = true := by simp [Region.wanted, hgd]
  rw [if_pos hw]
  unfold Oper.wp
  rw [hrun]
  refine hc.mono ?_
  rintro e w' ⟨v, rfl, hK⟩
  exact hK
/-- how long the texts are at most. -/
def _root_.Go.Proofs.Ytlpcddmcddenfaa.Tri.Tr.md : Tr → Nat
  | .nil => 0
  | .node _ l m r _ _ => max l.md (max (m.md + 1) r.md)
end Go.Proofs.Ytlpcddmcddenfaa.Kp
