/- impl.btreeDo: a script on a B-tree; impl.BtreeRun. -/
import Derived.Test.YtjbelfbfhcmgeaaBtG
import Derived.Test.YtjbelfbfhcmgeaaBtR
import Derived.Test.YtjbelfbfhcmgeaaActs
namespace Go.Proofs.Ytjbelfbfhcmgeaa.Kp
open Go.RowKit Bt

theorem runB_snoc (r : Int → Int) (a : ActD) (l : List ActD) (s : Bt.BT) : runB r s (l ++ [a]) = ((stepB r a (runB r s l).1).1, (runB r s l).2 ++ [(stepB r a (runB r s l).1).2]) := by
  rw [runB_append]; rfl
/-- a node's block has a node's type. -/
theorem BN.In.type {w : World} : ∀ {h : Nat} {t : BN h} {i : Nat}, BN.In w h t → i ∈ BN.ids h t → ∃ cs, Blk w i cs 87
  | 0, _, i, ⟨rows, h1, _⟩, hi => by
    obtain ⟨cs, hb, _⟩ := h1.is
    rw [List.mem_singleton.1 hi]; exact ⟨cs, hb⟩
  | h + 1, _, i, ⟨⟨rows, h1, _⟩, h3⟩, hi => by
    rcases List.mem_cons.1 hi with rfl | hi
    · obtain ⟨cs, hb, _⟩ := h1.is; exact ⟨cs, hb⟩
    · obtain ⟨e, he, hi⟩ := List.mem_flatMap.1 hi
      exact BN.In.type (h3 e he) hi
theorem TB.type {w : World} {tb : Nat} {f : Value} {xs : List Int} {B : Nat} {s : BNT} {n : Int} (H : TB w tb f xs B s n) : ∀ i ∈ tb :: s.ids, ∃ cs T, Blk w i cs T ∧ T ≠ 3 ∧ T ≠ 50 := by
  intro i hi
  rcases List.mem_cons.1 hi with rfl | hi
  · exact ⟨_, _, H.blk, by decide, by decide⟩
  · obtain ⟨cs, hc⟩ := H.inn.type hi
    exact ⟨cs, _, hc, by decide, by decide⟩
/-- what holds of the tree and of what was told, at a round's head. -/
structure BInv (xs : List Int) (f : Value) (B tb : Nat) (l : List ActD) (w : World) (k : Nat) (sk : BNT) (n : Int) (cs : List Value) (v : Value) (wr : World) : Prop where
  own : wr.ownsRow B 50 4 v k cs
  tr : TR wr B (runB (rankOf xs) newB (l.take k)).2 cs
  at_ : TB wr tb f xs B sk n
  er : sk.er = (runB (rankOf xs) newB (l.take k)).1
  n1 : -(k : Int) ≤ n
  n2 : n ≤ k
  hh : sk.1 ≤ k
  fl : sk.er.flat.length ≤ k
  below : Below B w wr
theorem BInv.hB {xs : List Int} {f : Value} {B tb : Nat} {l : List ActD} {w : World} {k : Nat} {sk : BNT} {n : Int} {cs : List Value} {v : Value} {wr : World} (h : BInv xs f B tb l w k sk n cs v wr) : B ≤ wr.heap.size := Nat.le_trans h.at_.hB (Nat.le_of_lt h.at_.blk.lt)
theorem BInv.alloc {xs : List Int} {f : Value} {B tb : Nat} {l : List ActD} {w : World} {k : Nat} {sk : BNT} {n : Int} {cs : List Value} {v : Value} {wr : World} (h : BInv xs f B tb l w k sk n cs v wr) (o : Obj) : BInv xs f B tb l w k sk n cs v (wr.alloc o) :=
  ⟨h.own.alloc _, (KeepsInts.below (Below.refl _ _ |>.alloc (Nat.le_refl _) o)).tr h.tr, h.at_.below ((Below.refl _ wr).alloc (Nat.le_refl _) o), h.er, h.n1, h.n2, h.hh, h.fl, h.below.alloc h.hB _⟩
/-- between a step and the append of what it told: xb the block of what it told. -/
structure BMid (xs : List Int) (f : Value) (B tb : Nat) (l : List ActD) (w : World) (k : Nat) (sk : BNT) (n : Int) (cs : List Value) (v : Value) (a : ActD) (d : ToldD) (ka va : Option Addr) (kc vc xb : Nat) (wr : World) : Prop where
  own : wr.ownsRow B 50 4 v k cs
  tr : TR wr B (runB (rankOf xs) newB (l.take k)).2 cs
  at_ : TB wr tb f xs B sk n
  er : sk.er = (stepB (rankOf xs) a (runB (rankOf xs) newB (l.take k)).1).1
  told : (stepB (rankOf xs) a (runB (rankOf xs) newB (l.take k)).1).2 = d
  n1 : -((k + 1 : Nat) : Int) ≤ n
  n2 : n ≤ ((k + 1 : Nat) : Int)
  hh : sk.1 ≤ k + 1
  fl : sk.er.flat.length ≤ k + 1
  below : Below B w wr
  hk : wr.ownsRow B 3 1 (.slice ka d.keys.length kc) d.keys.length (d.keys.map i64v)
  hv : wr.ownsRow B 3 1 (.slice va d.vals.length vc) d.vals.length (d.vals.map i64v)
  blk : Blk wr xb #[.int .i64 d.val, .bool d.ok, .slice ka d.keys.length kc, .slice va d.vals.length vc] 50
theorem BMid.cells {xs : List Int} {f : Value} {B tb : Nat} {l : List ActD} {w : World} {k : Nat} {sk : BNT} {n : Int} {cs : List Value} {v : Value} {a : ActD} {d : ToldD} {ka va : Option Addr} {kc vc xb : Nat} {wr : World} (h : BMid xs f B tb l w k sk n cs v a d ka va kc vc xb wr) :
    wr.cell? ⟨xb, 0, none⟩ = some (.int .i64 d.val) ∧ wr.cell? ⟨xb, 1, none⟩ = some (.bool d.ok) ∧ wr.cell? ⟨xb, 2, none⟩ = some (.slice ka d.keys.length kc) ∧ wr.cell? ⟨xb, 3, none⟩ = some (.slice va d.vals.length vc) ∧ xb < wr.heap.size := ⟨h.blk.cell 0, h.blk.cell 1, h.blk.cell 2, h.blk.cell 3, h.blk.lt⟩
theorem own_type {wr : World} {B s n : Nat} {e : TypeId} {v : Value} {cs : List Value} (ho : wr.ownsRow B e s v n cs) : ∀ b, v.ownBlock = some b → ∃ cur, Blk wr b cur e := fun b hb => by
  rcases ho.2 with ⟨e1, _⟩ | ⟨g, cap, cur, e1, _, hc, _⟩
  · rw [e1] at hb; cases hb
  · rw [e1] at hb; cases hb; exact ⟨cur, hc⟩
theorem BMid.next {xs : List Int} {f : Value} {B tb : Nat} {l : List ActD} {w : World} {k : Nat} {sk : BNT} {n : Int} {cs : List Value} {v : Value} {a : ActD} {d : ToldD} {ka va : Option Addr} {kc vc xb : Nat} {wr w2 : World} {v' : Value} {o : Obj} (h : BMid xs f B tb l w k sk n cs v a d ka va kc vc xb wr) (ha : l[k]? = some a)
    (ho : w2.ownsRow B 50 4 v' (k + 1) (cs ++ [.int .i64 d.val, .bool d.ok, .slice ka d.keys.length kc, .slice va d.vals.length vc])) (hg : (wr.alloc o).grownBy w2 v.ownBlock) :
    BInv xs f B tb l w (k + 1) sk n (cs ++ [.int .i64 d.val, .bool d.ok, .slice ka d.keys.length kc, .slice va d.vals.length vc]) v' w2 := by
  have hkl : k < l.length := (List.getElem?_eq_some_iff.1 ha).1
  have e : l.take (k + 1) = l.take k ++ [a] := by rw [List.take_succ_eq_append_getElem hkl]; congr; exact (List.getElem?_eq_some_iff.1 ha).2
  have hB : B ≤ wr.heap.size := Nat.le_trans h.at_.hB (Nat.le_of_lt h.at_.blk.lt)
  have K : KeepsInts wr w2 := (KeepsInts.below (Below.refl _ _ |>.alloc (Nat.le_refl _) o)).trans (KeepsInts.grown hg (fun b hb => by
    obtain ⟨cur, hc⟩ := own_type h.own b hb
    exact ⟨cur, _, hc.alloc o, by decide⟩))
  have hne : ∀ i ∈ tb :: sk.ids, some i ≠ v.ownBlock := fun i hi e => by
    obtain ⟨cs, T, h1, _, h2⟩ := h.at_.type i hi
    obtain ⟨cur, hc⟩ := own_type h.own i e.symm
    exact h2 (Blk.ty h1 hc)
  have hF : ∀ i, i < wr.heap.size → some i ≠ v.ownBlock → w2.heap[i]? = wr.heap[i]? := fun i hi hn => by
    rw [hg.block i (by simp; omega) hn, Below.heap_alloc _ _ _ hi]
  have hbl : Below B w w2 := by
    have hb := h.below.alloc hB o
    exact hb.grown hg (by simp; omega) (fun g hg => (h.own.lt g hg).1)
  have r := runB_snoc (rankOf xs) a (l.take k) newB
  have hfr : Fr (match v.ownBlock with | none => [] | some g => [g]) wr w2 := ⟨hg.os, hg.tape, hg.output, Nat.le_trans (by simp) hg.size, fun i hi hn => hF i hi (fun e => hn (by rw [← e]; simp))⟩
  refine ⟨ho, ?_, h.at_.fr hfr (fun hm => ?_) (fun i hi hm => ?_) (fun i hi => ?_), ?_, h.n1, h.n2, h.hh, h.fl, hbl⟩
  · rw [e, r, h.told]
    exact TR.snoc (K.own h.hk) (K.own h.hv) (K.tr h.tr)
  · cases hx : v.ownBlock with
    | none => rw [hx] at hm; cases hm
    | some g => rw [hx] at hm; simp at hm; exact hne tb (List.mem_cons_self ..) (by rw [hx, hm])
  · cases hx : v.ownBlock with
    | none => rw [hx] at hm; cases hm
    | some g => rw [hx] at hm; simp at hm; exact hne i (List.mem_cons_of_mem _ hi) (by rw [hx, hm])
  · cases hx : v.ownBlock with
    | none => rw [hx] at hi; cases hi
    | some g => rw [hx] at hi; simp at hi; rw [hi]; exact (h.own.lt g hx).1
  · rw [e, r]; exact h.er
/-- a step that only reads leaves the tree, and fills what it tells. -/
theorem BMid.of_fr {xs : List Int} {f : Value} {B tb : Nat} {l : List ActD} {w : World} {k : Nat} {sk : BNT} {n : Int} {cs : List Value} {v : Value} {a : ActD} {d : ToldD} {ka va : Option Addr} {kc vc xb : Nat} {wr w2 : World} {cx : Array Value} (h : BInv xs f B tb l w k sk n cs v wr) (h1 : (stepB (rankOf xs) a sk.er).1 = sk.er) (h2 : (stepB (rankOf xs) a sk.er).2 = d)
    (hx : Blk wr xb cx 50) (hf : Fr [xb] wr w2) (hv0 : v.ownBlock ≠ some xb) (hxB : B ≤ xb)
    (hk : w2.ownsRow B 3 1 (.slice ka d.keys.length kc) d.keys.length (d.keys.map i64v)) (hv : w2.ownsRow B 3 1 (.slice va d.vals.length vc) d.vals.length (d.vals.map i64v))
    (hb : Blk w2 xb #[.int .i64 d.val, .bool d.ok, .slice ka d.keys.length kc, .slice va d.vals.length vc] 50) : BMid xs f B tb l w k sk n cs v a d ka va kc vc xb w2 := by
  have K : KeepsInts wr w2 := KeepsInts.fr hf (fun b hb => by rw [List.mem_singleton.1 hb]; exact ⟨_, _, hx, by decide⟩)
  have hne : ∀ i ∈ tb :: sk.ids, i ∉ [xb] := fun i hi e => by
    obtain ⟨cs, T, g1, _, g2⟩ := h.at_.type i hi
    rw [List.mem_singleton.1 e] at g1
    exact g2 (Blk.ty g1 hx)
  have hx1 : ∀ i ∈ [xb], B ≤ i := fun i hi => by rw [List.mem_singleton.1 hi]; exact hxB
  refine ⟨?_, K.tr h.tr, h.at_.fr hf (hne tb (List.mem_cons_self ..)) (fun i hi => hne i (List.mem_cons_of_mem _ hi)) hx1, ?_, ?_, by have := h.n1; omega, by have := h.n2; omega, by have := h.hh; omega, by have := h.fl; omega, h.below.trans (hf.below hx1 h.hB), hk, hv, hb⟩
  · refine ⟨h.own.1, h.own.2.imp id ?_⟩
    rintro ⟨g, cap, cur, e1, e2, e3, e4⟩
    exact ⟨g, cap, cur, e1, e2, (show Blk w2 g cur _ from Blk.fr (show Blk wr g cur _ from e3) hf (fun e => hv0 (by rw [e1, ← List.mem_singleton.1 e]; rfl))), e4⟩
  · rw [← h.er, h1]
  · rw [← h.er, h2]
/-- a step that changes the tree. -/
theorem BMid.of_write {xs : List Int} {f : Value} {B tb : Nat} {l : List ActD} {w : World} {k : Nat} {sk : BNT} {n n' : Int} {cs : List Value} {v : Value} {a : ActD} {xb : Nat} {wr w2 : World} (h : BInv xs f B tb l w k sk n cs v wr) (h2 : (stepB (rankOf xs) a sk.er).2 = .none)
    (hb : Blk wr xb #[.int .i64 0, .bool false, .slice none 0 0, .slice none 0 0] 50) (hs : StepB wr tb f xs B sk (stepB (rankOf xs) a sk.er).1 n' w2) (hn : n' = n + 1 ∨ n' = n ∨ n' = n - 1) :
    ∃ s2, BMid xs f B tb l w k s2 n' cs v a .none none none 0 0 xb w2 := by
  obtain ⟨s2, g1, g2, g3, hf⟩ := hs
  have K : KeepsInts wr w2 := KeepsInts.fr hf (fun b hb => by obtain ⟨cs, T, h1, h2, _⟩ := h.at_.type b hb; exact ⟨cs, T, h1, h2⟩)
  have hne : ∀ b cs', Blk wr b cs' 50 → b ∉ tb :: sk.ids := fun b cs' hb hx => by
    obtain ⟨cs, T, h1, _, h2⟩ := h.at_.type b hx
    exact h2 (Blk.ty h1 hb)
  have hge : ∀ x ∈ tb :: sk.ids, B ≤ x := fun x hx => (List.mem_cons.1 hx).elim (fun e => e ▸ h.at_.hB) (h.at_.hS x)
  obtain ⟨u1, u2⟩ := ups_flat_len (r := rankOf xs) a h.at_.wf
  rw [← g2] at u1 u2
  have u2' : s2.1 ≤ sk.1 + 1 := u2
  refine ⟨s2, ?_, K.tr h.tr, g1, ?_, ?_, by have := h.n1; omega, by have := h.n2; omega, by have := h.hh; omega, by have := h.fl; omega, h.below.trans (hf.below hge h.hB), World.ownsRow_nil _ _ _ _, World.ownsRow_nil _ _ _ _, hb.fr hf (hne _ _ hb)⟩
  · refine ⟨h.own.1, h.own.2.imp id ?_⟩
    rintro ⟨g, cap, cur, e1, e2, e3, e4⟩
    exact ⟨g, cap, cur, e1, e2, (show Blk w2 g cur _ from Blk.fr (show Blk wr g cur _ from e3) hf (hne _ _ e3)), e4⟩
  · rw [← h.er]; exact g2
  · rw [← h.er, h2]
end Go.Proofs.Ytjbelfbfhcmgeaa.Kp
