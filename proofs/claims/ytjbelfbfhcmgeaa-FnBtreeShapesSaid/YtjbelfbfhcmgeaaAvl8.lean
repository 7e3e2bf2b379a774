/- impl.avlDo: a script on a tree: the walk. -/
import Derived.Test.YtjbelfbfhcmgeaaAvl7
import Derived.Deep.Cut
namespace Go.Proofs.Ytjbelfbfhcmgeaa
open Go.RowKit

/-- a slice of steps that came in, in blocks below B. -/
structure SlA (w : World) (B : Nat) (v : Value) (l : List ActD) : Prop where
  is : ∃ A cap, v = .slice A l.length cap ∧ (l = [] ∨ ∃ b off, A = some ⟨b, off, none⟩ ∧ l.length ≤ cap ∧ b < B ∧ b < w.heap.size ∧ ∀ i a, l[i]? = some a → w.cell? ⟨b, off + i * 3, none⟩ = some (.int .i64 a.act) ∧ w.cell? ⟨b, off + i * 3 + 1, none⟩ = some (.int .i64 a.key) ∧ w.cell? ⟨b, off + i * 3 + 2, none⟩ = some (.int .i64 a.val))
theorem SlA.below {w w' : World} {B : Nat} {v : Value} {l : List ActD} (h : SlA w B v l) (hb : Below B w w') : SlA w' B v l := by
  obtain ⟨A, cap, e, h⟩ := h.is
  refine ⟨A, cap, e, h.imp id ?_⟩
  rintro ⟨b, off, e, h1, h3, h4, h5⟩
  exact ⟨b, off, e, h1, h3, Nat.lt_of_lt_of_le h4 hb.size, fun i a hi => ⟨(hb.cell (p := ⟨b, off + i * 3, none⟩) h3).trans (h5 i a hi).1, (hb.cell (p := ⟨b, off + i * 3 + 1, none⟩) h3).trans (h5 i a hi).2.1, (hb.cell (p := ⟨b, off + i * 3 + 2, none⟩) h3).trans (h5 i a hi).2.2⟩⟩
theorem SlA.mono {w : World} {B B' : Nat} {v : Value} {xs : List ActD} (h : SlA w B v xs) (hB : B ≤ B') : SlA w B' v xs := by
  obtain ⟨A, cap, e, h⟩ := h.is
  refine ⟨A, cap, e, h.imp id ?_⟩
  rintro ⟨b, off, e, h1, h3, h4, h5⟩
  exact ⟨b, off, e, h1, Nat.lt_of_lt_of_le h3 hB, h4, h5⟩
theorem SlA.form {w : World} {B : Nat} {v : Value} {l : List ActD} (h : SlA w B v l) : ∃ A c, v = .slice A l.length c := by
  obtain ⟨A, cap, e, _⟩ := h.is
  exact ⟨A, cap, e⟩
theorem SlA.at_ {w : World} {B n c : Nat} {A : Option Addr} {l : List ActD} (h : SlA w B (.slice A n c) l) {i : Nat} (hi : i < l.length) : ∃ b off a, A = some ⟨b, off, none⟩ ∧ l.length ≤ c ∧ b < B ∧ b < w.heap.size ∧ l[i]? = some a ∧
    w.cell? ⟨b, off + i * 3, none⟩ = some (.int .i64 a.act) ∧ w.cell? ⟨b, off + i * 3 + 1, none⟩ = some (.int .i64 a.key) ∧ w.cell? ⟨b, off + i * 3 + 2, none⟩ = some (.int .i64 a.val) := by
  obtain ⟨A', cap, e, h⟩ := h.is
  cases e
  rcases h with rfl | ⟨b, off, rfl, h1, h3, h4, h5⟩
  · simp at hi
  · exact ⟨b, off, l[i], rfl, h1, h3, h4, List.getElem?_eq_getElem hi, h5 i _ (List.getElem?_eq_getElem hi)⟩
/-- rows that tell, as they lie. -/
def TR (w : World) (B : Nat) : List ToldD → List Value → Prop
  | [], cs => cs = []
  | d :: ds, cs => ∃ ka kc va vc rest, cs = .int .i64 d.val :: .bool d.ok :: .slice ka d.keys.length kc :: .slice va d.vals.length vc :: rest ∧
      w.ownsRow B 3 1 (.slice ka d.keys.length kc) d.keys.length (d.keys.map i64v) ∧ w.ownsRow B 3 1 (.slice va d.vals.length vc) d.vals.length (d.vals.map i64v) ∧ TR w B ds rest
/-- rows of ints stay. -/
def KeepsInts (w w' : World) : Prop := ∀ (g : Nat) (cur : Array Value), w.heap[g]? = some (Obj.cells cur 3 (0, 0)) → w'.heap[g]? = some (Obj.cells cur 3 (0, 0))
theorem KeepsInts.refl (w : World) : KeepsInts w w := fun _ _ h => h
theorem KeepsInts.trans {a b c : World} (h : KeepsInts a b) (k : KeepsInts b c) : KeepsInts a c := fun g cur hg => k g cur (h g cur hg)
theorem KeepsInts.own {w w' : World} (h : KeepsInts w w') {B n : Nat} {v : Value} {xs : List Value} (ho : w.ownsRow B 3 1 v n xs) : w'.ownsRow B 3 1 v n xs := by
  refine ⟨ho.1, ho.2.imp id ?_⟩
  rintro ⟨g, cap, cur, a1, a2, a3, a4⟩
  exact ⟨g, cap, cur, a1, a2, h g cur a3, a4⟩
theorem KeepsInts.tr {w w' : World} (h : KeepsInts w w') {B : Nat} : ∀ {ds : List ToldD} {cs : List Value}, TR w B ds cs → TR w' B ds cs
  | [], _, ht => ht
  | _ :: _, _, ⟨ka, kc, va, vc, rest, e, h1, h2, h3⟩ => ⟨ka, kc, va, vc, rest, e, h.own h1, h.own h2, h.tr h3⟩
theorem KeepsInts.fr {S : List Nat} {w w' : World} (hf : Fr S w w') (hS : ∀ b ∈ S, ∃ cs T, Blk w b cs T ∧ T ≠ 3) : KeepsInts w w' := fun g cur hg => by
  have hl : g < w.heap.size := (Array.getElem?_eq_some_iff.1 hg).1
  rw [hf.block g hl (fun hx => by
    obtain ⟨cs, T, hb, hT⟩ := hS g hx
    unfold Blk at hb
    rw [hb] at hg
    simp at hg
    exact hT hg.2)]
  exact hg
theorem KeepsInts.grown {w w' : World} {row : Option Nat} (hf : w.grownBy w' row) (hS : ∀ b, row = some b → ∃ cs T, Blk w b cs T ∧ T ≠ 3) : KeepsInts w w' := fun g cur hg => by
  have hl : g < w.heap.size := (Array.getElem?_eq_some_iff.1 hg).1
  rw [hf.block g hl (fun hx => by
    obtain ⟨cs, T, hb, hT⟩ := hS g hx.symm
    unfold Blk at hb
    rw [hb] at hg
    simp at hg
    exact hT hg.2)]
  exact hg
theorem KeepsInts.below {w w' : World} (hf : Below w.heap.size w w') : KeepsInts w w' := fun g cur hg => by
  have hl : g < w.heap.size := (Array.getElem?_eq_some_iff.1 hg).1
  rw [hf.block g hl]; exact hg
theorem TR.len {w : World} {B : Nat} : ∀ {ds : List ToldD} {cs : List Value}, TR w B ds cs → cs.length = 4 * ds.length
  | [], _, h => by rw [h]; rfl
  | _ :: _, _, ⟨_, _, _, _, _, e, _, _, h3⟩ => by rw [e]; simp [TR.len h3]; omega
theorem TR.snoc {w : World} {B : Nat} {d : ToldD} {ka va : Option Addr} {kc vc : Nat} (h1 : w.ownsRow B 3 1 (.slice ka d.keys.length kc) d.keys.length (d.keys.map i64v)) (h2 : w.ownsRow B 3 1 (.slice va d.vals.length vc) d.vals.length (d.vals.map i64v)) :
    ∀ {ds : List ToldD} {cs : List Value}, TR w B ds cs → TR w B (ds ++ [d]) (cs ++ [.int .i64 d.val, .bool d.ok, .slice ka d.keys.length kc, .slice va d.vals.length vc])
  | [], _, h => by rw [h]; exact ⟨ka, kc, va, vc, [], rfl, h1, h2, rfl⟩
  | _ :: _, _, ⟨ka', kc', va', vc', rest, e1, g1, g2, h3⟩ => by rw [e1]; exact ⟨ka', kc', va', vc', _, rfl, g1, g2, TR.snoc h1 h2 h3⟩
theorem runA_snoc (xs : List Int) (a : ActD) : ∀ (l : List ActD) (t : AT), runA xs t (l ++ [a]) = ((stepA xs a 0 (runA xs t l).1).1, (runA xs t l).2 ++ [(stepA xs a 0 (runA xs t l).1).2])
  | [], _ => rfl
  | b :: l, t => by simp only [List.cons_append, runA, runA_snoc xs a l]
theorem runA_len (xs : List Int) : ∀ (l : List ActD) (t : AT), (runA xs t l).2.length = l.length
  | [], _ => rfl
  | a :: l, t => by simp [runA, runA_len xs l]
/-- what holds of the tree and of what was told, at a round's head. -/
structure AvlInv (xs : List Int) (f : Value) (B tb : Nat) (l : List ActD) (t : AT) (w : World) (k : Nat) (tk : AT) (cs : List Value) (v : Value) (wr : World) : Prop where
  own : wr.ownsRow B 50 4 v k cs
  tr : TR wr B (runA xs t.er (l.take k)).2 cs
  at_ : TreeAt wr tb tk f
  lies : tk.In wr
  er : tk.er = (runA xs t.er (l.take k)).1
  nd : tk.ids.Nodup
  ok : tk.Ok
  vs : tk.Vs
  ge : ∀ i ∈ tk.ids, B ≤ i
  len : tk.ids.length ≤ t.ids.length + k
  below : Below B w wr
theorem Try.infoTold : (Try.prog.info? 50).map (fun i => (i.zero, i.size, i.bytes)) = some (some (.agg #[.int .i64 0, .bool false, .slice none 0 0, .slice none 0 0]), 4, 64) := by kernel_rfl
theorem AT.In.type {w : World} : ∀ {t : AT} {b : Nat}, t.In w → b ∈ t.ids → ∃ cs, Blk w b cs 107
  | .nil, _, _, hx => by cases hx
  | .node b' k v h l r, b, hs, hx => by
    rcases List.mem_cons.1 hx with rfl | hx
    · exact ⟨_, hs.1⟩
    · rcases List.mem_append.1 hx with hx | hx
      · exact hs.2.1.type hx
      · exact hs.2.2.type hx
theorem Blk.ty {w : World} {b : Nat} {cs cs' : Array Value} {T T' : TypeId} (h : Blk w b cs T) (h' : Blk w b cs' T') : T = T' := by
  unfold Blk at h h'; rw [h] at h'; simp at h'; exact h'.2
theorem AvlInv.apart {xs : List Int} {f : Value} {B tb : Nat} {l : List ActD} {t : AT} {w : World} {k : Nat} {tk : AT} {cs : List Value} {v : Value} {wr : World} (h : AvlInv xs f B tb l t w k tk cs v wr) : tb ∉ tk.ids := fun hx => by
  obtain ⟨cs, hc⟩ := h.lies.type hx
  exact absurd (Blk.ty h.at_ hc) (by decide)
theorem rotL_vs {t : AT} (h : t.Vs) : (rotL t).Vs := by
  unfold rotL; split
  · exact ⟨h.2.2.1, ⟨h.1, h.2.1, h.2.2.2.1⟩, h.2.2.2.2⟩
  · exact h
theorem rotR_vs {t : AT} (h : t.Vs) : (rotR t).Vs := by
  unfold rotR; split
  · exact ⟨h.2.1.1, h.2.1.2.1, ⟨h.1, h.2.1.2.2, h.2.2⟩⟩
  · exact h
theorem fixR_vs {t : AT} (h : t.Vs) : (fixR t).Vs := by
  unfold fixR; split
  · split
    · exact rotR_vs h
    · exact h
  · exact h
theorem fixL_vs {t : AT} (h : t.Vs) : (fixL t).Vs := by
  unfold fixL; split
  · split
    · exact rotL_vs h
    · exact h
  · exact h
theorem reb_vs {t : AT} (h : t.Vs) : (reb t).Vs := by
  unfold reb; split
  · split
    · exact rotL_vs ⟨h.1, h.2.1, fixR_vs h.2.2⟩
    · split
      · exact rotR_vs ⟨h.1, fixL_vs h.2.1, h.2.2⟩
      · exact ⟨h.1, h.2.1, h.2.2⟩
  · exact h
theorem add_vs (xs : List Int) (k : Int) {v : Value} (nb : Nat) (hv : VOk v) : ∀ {t : AT}, t.Vs → (t.add xs k v nb).Vs
  | .nil, _ => ⟨hv, trivial, trivial⟩
  | .node b k2 v2 h l r, hs => by
    unfold AT.add
    split
    · exact reb_vs ⟨hs.1, add_vs xs k nb hv hs.2.1, hs.2.2⟩
    · split
      · exact reb_vs ⟨hs.1, hs.2.1, add_vs xs k nb hv hs.2.2⟩
      · exact reb_vs ⟨hv, hs.2.1, hs.2.2⟩
theorem rem_vs (xs : List Int) : ∀ {t : AT} (k : Int), t.Vs → (t.rem xs k).Vs
  | .nil, _, _ => trivial
  | .node b k2 v2 h l r, k, hs => by
    rw [AT.rem.eq_def]
    simp only
    split
    · exact reb_vs ⟨hs.1, rem_vs xs k hs.2.1, hs.2.2⟩
    · split
      · exact reb_vs ⟨hs.1, hs.2.1, rem_vs xs k hs.2.2⟩
      · unfold remTop
        split
        · trivial
        · exact reb_vs hs.2.1
        · exact reb_vs hs.2.2
        · rename_i hx
          refine reb_vs ⟨?_, hs.2.1, rem_vs xs _ hs.2.2⟩
          cases r with
          | nil => exact (hx rfl).elim
          | node b4 k4 v4 h4 l4 r4 => exact AT.least_v hs.2.2 (by simp)
theorem news_blk {W : World} {b : Nat} {cs : List Value} {T : TypeId} (h : Blk W b cs.toArray T) : ∀ j u, cs[j]? = some u → W.cell? ((⟨b, 0, none⟩ : Addr).add j) = some u := by
  intro j u hj
  have e : ((⟨b, 0, none⟩ : Addr).add j) = ⟨b, j, none⟩ := by unfold Addr.add; split <;> simp_all
  rw [e, h.cell j]
  simpa using hj
theorem AvlInv.alloc {xs : List Int} {f : Value} {B tb : Nat} {l : List ActD} {t : AT} {w : World} {k : Nat} {tk : AT} {cs : List Value} {v : Value} {wr : World} (h : AvlInv xs f B tb l t w k tk cs v wr) (hB : B ≤ w.heap.size) (o : Obj) : AvlInv xs f B tb l t w k tk cs v (wr.alloc o) :=
  ⟨h.own.alloc _, (KeepsInts.below (Below.refl _ _ |>.alloc (Nat.le_refl _) o)).tr h.tr, h.at_.alloc _, h.lies.fr (Fr.alloc [] _ _) (fun _ _ h => by cases h), h.er, h.nd, h.ok, h.vs, h.ge, h.len, h.below.alloc (Nat.le_trans hB h.below.size) _⟩
/-- between a step and the append of what it told: xb the block of what it told. -/
structure AvlMid (xs : List Int) (f : Value) (B tb : Nat) (l : List ActD) (t : AT) (w : World) (k : Nat) (tk : AT) (cs : List Value) (v : Value) (a : ActD) (d : ToldD) (ka va : Option Addr) (kc vc xb : Nat) (wr : World) : Prop where
  own : wr.ownsRow B 50 4 v k cs
  tr : TR wr B (runA xs t.er (l.take k)).2 cs
  at_ : TreeAt wr tb tk f
  lies : tk.In wr
  er : tk.er = (stepA xs a 0 (runA xs t.er (l.take k)).1).1
  told : (stepA xs a 0 (runA xs t.er (l.take k)).1).2 = d
  nd : tk.ids.Nodup
  ok : tk.Ok
  vs : tk.Vs
  ge : ∀ i ∈ tk.ids, B ≤ i
  len : tk.ids.length ≤ t.ids.length + (k + 1)
  below : Below B w wr
  hk : wr.ownsRow B 3 1 (.slice ka d.keys.length kc) d.keys.length (d.keys.map i64v)
  hv : wr.ownsRow B 3 1 (.slice va d.vals.length vc) d.vals.length (d.vals.map i64v)
  blk : Blk wr xb #[.int .i64 d.val, .bool d.ok, .slice ka d.keys.length kc, .slice va d.vals.length vc] 50
theorem AvlMid.cells {xs : List Int} {f : Value} {B tb : Nat} {l : List ActD} {t : AT} {w : World} {k : Nat} {tk : AT} {cs : List Value} {v : Value} {a : ActD} {d : ToldD} {ka va : Option Addr} {kc vc xb : Nat} {wr : World} (h : AvlMid xs f B tb l t w k tk cs v a d ka va kc vc xb wr) :
    wr.cell? ⟨xb, 0, none⟩ = some (.int .i64 d.val) ∧ wr.cell? ⟨xb, 1, none⟩ = some (.bool d.ok) ∧ wr.cell? ⟨xb, 2, none⟩ = some (.slice ka d.keys.length kc) ∧ wr.cell? ⟨xb, 3, none⟩ = some (.slice va d.vals.length vc) ∧ xb < wr.heap.size := ⟨h.blk.cell 0, h.blk.cell 1, h.blk.cell 2, h.blk.cell 3, h.blk.lt⟩
theorem AvlMid.next {xs : List Int} {f : Value} {B tb : Nat} {l : List ActD} {t : AT} {w : World} {k : Nat} {tk : AT} {cs : List Value} {v : Value} {a : ActD} {d : ToldD} {ka va : Option Addr} {kc vc xb : Nat} {wr w2 : World} {v' : Value} {o : Obj} (h : AvlMid xs f B tb l t w k tk cs v a d ka va kc vc xb wr) (ha : l[k]? = some a) (hB : B ≤ w.heap.size)
    (ho : w2.ownsRow B 50 4 v' (k + 1) (cs ++ [.int .i64 d.val, .bool d.ok, .slice ka d.keys.length kc, .slice va d.vals.length vc])) (hg : (wr.alloc o).grownBy w2 v.ownBlock) :
    AvlInv xs f B tb l t w (k + 1) tk (cs ++ [.int .i64 d.val, .bool d.ok, .slice ka d.keys.length kc, .slice va d.vals.length vc]) v' w2 := by
  have hkl : k < l.length := (List.getElem?_eq_some_iff.1 ha).1
  have e : l.take (k + 1) = l.take k ++ [a] := by rw [List.take_succ_eq_append_getElem hkl]; congr; exact (List.getElem?_eq_some_iff.1 ha).2
  have K : KeepsInts wr w2 := (KeepsInts.below (Below.refl _ _ |>.alloc (Nat.le_refl _) o)).trans (KeepsInts.grown hg (fun b hb => by
    rcases h.own.2 with ⟨e, _⟩ | ⟨g, cap, cur, e, _, hc, _⟩
    · rw [e] at hb; cases hb
    · rw [e] at hb; cases hb
      exact ⟨cur, _, (show Blk wr _ _ _ from hc).alloc o, by decide⟩))
  have hne : ∀ b cs' T, Blk wr b cs' T → T ≠ 50 → some b ≠ v.ownBlock := fun b cs' T hb hT e => by
    rcases h.own.2 with ⟨e1, _⟩ | ⟨g, cap, cur, e1, _, hc, _⟩
    · rw [e1] at e; cases e
    · rw [e1] at e; cases e
      unfold Blk at hb
      rw [hb] at hc
      simp at hc
      exact hT hc.2
  have hin : ∀ {s : AT}, s.In wr → s.In w2 := by
    intro s
    induction s with
    | nil => exact fun _ => trivial
    | node b k v h l r ihl ihr => exact fun hs => ⟨(hs.1.alloc o).grown hg (hne _ _ _ hs.1 (by decide)), ihl hs.2.1, ihr hs.2.2⟩
  have r := runA_snoc xs a (l.take k) t.er
  refine ⟨ho, ?_, (h.at_.alloc o).grown hg (hne _ _ _ h.at_ (by decide)), hin h.lies, ?_, h.nd, h.ok, h.vs, h.ge, h.len, ?_⟩
  · rw [e, r, h.told]
    exact TR.snoc (K.own h.hk) (K.own h.hv) (K.tr h.tr)
  · rw [e, r]; exact h.er
  · have hb := h.below.alloc (Nat.le_trans hB h.below.size) o
    exact hb.grown hg (Nat.le_trans hB hb.size) (fun g hg => (h.own.lt g hg).1)
/-- a step that only reads leaves the tree, and fills what it tells. -/
theorem AvlMid.of_fr {xs : List Int} {f : Value} {B tb : Nat} {l : List ActD} {t : AT} {w : World} {k : Nat} {tk : AT} {cs : List Value} {v : Value} {a : ActD} {d : ToldD} {ka va : Option Addr} {kc vc xb : Nat} {wr w2 : World} {cx : Array Value} (h : AvlInv xs f B tb l t w k tk cs v wr) (h1 : (stepA xs a 0 tk).1 = tk) (h2 : (stepA xs a 0 tk).2 = d)
    (hx : Blk wr xb cx 50) (hf : Fr [xb] wr w2) (hv0 : v.ownBlock ≠ some xb) (hB : B ≤ w.heap.size) (hxB : B ≤ xb)
    (hk : w2.ownsRow B 3 1 (.slice ka d.keys.length kc) d.keys.length (d.keys.map i64v)) (hv : w2.ownsRow B 3 1 (.slice va d.vals.length vc) d.vals.length (d.vals.map i64v))
    (hb : Blk w2 xb #[.int .i64 d.val, .bool d.ok, .slice ka d.keys.length kc, .slice va d.vals.length vc] 50) : AvlMid xs f B tb l t w k tk cs v a d ka va kc vc xb w2 := by
  have es := er_step xs a 0 tk
  have K : KeepsInts wr w2 := KeepsInts.fr hf (fun b hb => by rw [List.mem_singleton.1 hb]; exact ⟨_, _, hx, by decide⟩)
  have hne : ∀ {b : Nat} {cs' : Array Value} {T : TypeId}, Blk wr b cs' T → T ≠ 50 → b ∉ [xb] := fun hb hT e => hT (by rw [List.mem_singleton.1 e] at hb; exact Blk.ty hb hx)
  refine ⟨?_, K.tr h.tr, h.at_.fr hf (hne h.at_ (by decide)), h.lies.fr hf (fun x hx' => by obtain ⟨cs, hc⟩ := h.lies.type hx'; exact hne hc (by decide)), ?_, ?_, h.nd, h.ok, h.vs, h.ge, by have := h.len; omega, h.below.trans (hf.below (fun x hx => by rw [List.mem_singleton.1 hx]; exact hxB) (Nat.le_trans hB h.below.size)), hk, hv, hb⟩
  · refine ⟨h.own.1, h.own.2.imp id ?_⟩
    rintro ⟨g, cap, cur, e1, e2, e3, e4⟩
    exact ⟨g, cap, cur, e1, e2, (show Blk w2 g cur _ from Blk.fr (show Blk wr g cur _ from e3) hf (fun e => hv0 (by rw [e1, ← List.mem_singleton.1 e]; rfl))), e4⟩
  · rw [← h.er, ← es.1, h1]
  · rw [← h.er, es.2, h2]
theorem own_weaken {w : World} {B B' : Nat} {e : TypeId} {s n : Nat} {v : Value} {xs : List Value} (h : w.ownsRow B' e s v n xs) (hB : B ≤ B') : w.ownsRow B e s v n xs := by
  refine ⟨h.1, h.2.imp id ?_⟩
  rintro ⟨g, cap, cur, e1, e2, e3⟩
  exact ⟨g, cap, cur, e1, Nat.le_trans hB e2, e3⟩
/-- a step that changes the tree. -/
theorem AvlMid.of_write {xs : List Int} {f : Value} {B tb : Nat} {l : List ActD} {t : AT} {w : World} {k : Nat} {tk t2 : AT} {cs : List Value} {v : Value} {a : ActD} {xb nb : Nat} {wr w2 : World} (h : AvlInv xs f B tb l t w k tk cs v wr) (h1 : (stepA xs a nb tk).1 = t2) (h2 : (stepA xs a nb tk).2 = .none)
    (hb : Blk wr xb #[.int .i64 0, .bool false, .slice none 0 0, .slice none 0 0] 50) (hf : Fr (tb :: tk.ids) wr w2) (hB : B ≤ w.heap.size) (htb : B ≤ tb) (ht : TreeAt w2 tb t2 f) (hl : t2.In w2) (nd : t2.ids.Nodup) (ok : t2.Ok) (vs : t2.Vs) (ge : ∀ i ∈ t2.ids, B ≤ i) (len : t2.ids.length ≤ tk.ids.length + 1) :
    AvlMid xs f B tb l t w k t2 cs v a .none none none 0 0 xb w2 := by
  have es := er_step xs a nb tk
  have hty : ∀ b ∈ tb :: tk.ids, ∃ cs T, Blk wr b cs T ∧ T ≠ 3 ∧ T ≠ 50 := by
    intro b hb
    rcases List.mem_cons.1 hb with rfl | hb
    · exact ⟨_, _, h.at_, by decide, by decide⟩
    · have : ∀ {s : AT}, s.In wr → b ∈ s.ids → ∃ cs, Blk wr b cs 107 := by
        intro s
        induction s with
        | nil => exact fun _ hx => by cases hx
        | node b' k v h l r ihl ihr =>
          intro hs hx
          rcases List.mem_cons.1 hx with rfl | hx
          · exact ⟨_, hs.1⟩
          · rcases List.mem_append.1 hx with hx | hx
            · exact ihl hs.2.1 hx
            · exact ihr hs.2.2 hx
      obtain ⟨cs, hc⟩ := this h.lies hb
      exact ⟨cs, _, hc, by decide, by decide⟩
  have K : KeepsInts wr w2 := KeepsInts.fr hf (fun b hb => by obtain ⟨cs, T, h1, h2, _⟩ := hty b hb; exact ⟨cs, T, h1, h2⟩)
  have hne : ∀ b cs', Blk wr b cs' 50 → b ∉ tb :: tk.ids := fun b cs' hb hx => by
    obtain ⟨cs, T, h1, _, h2⟩ := hty b hx
    unfold Blk at hb h1
    rw [hb] at h1
    simp at h1
    exact h2 h1.2.symm
  have hge : ∀ x ∈ tb :: tk.ids, B ≤ x := fun x hx => (List.mem_cons.1 hx).elim (fun e => e ▸ htb) (h.ge x)
  refine ⟨?_, K.tr h.tr, ht, hl, ?_, ?_, nd, ok, vs, ge, by have := h.len; omega, h.below.trans (hf.below hge (Nat.le_trans hB h.below.size)), World.ownsRow_nil _ _ _ _, World.ownsRow_nil _ _ _ _, hb.fr hf (hne _ _ hb)⟩
  · refine ⟨h.own.1, h.own.2.imp id ?_⟩
    rintro ⟨g, cap, cur, e1, e2, e3, e4⟩
    exact ⟨g, cap, cur, e1, e2, (show Blk w2 g cur _ from Blk.fr (show Blk wr g cur _ from e3) hf (hne _ _ e3)), e4⟩
  · rw [← h.er, ← es.1, h1]
  · rw [← h.er, es.2, h2]
theorem or7 {a b c d e f g R : Prop} (h : a ∨ b ∨ c ∨ d ∨ e ∨ f ∨ g) (h1 : a → R) (h2 : b → R) (h3 : c → R) (h4 : d → R) (h5 : e → R) (h6 : f → R) (h7 : g → R) : R := by
  rcases h with h | h | h | h | h | h | h
  · exact h1 h
  · exact h2 h
  · exact h3 h
  · exact h4 h
  · exact h5 h
  · exact h6 h
  · exact h7 h
set_option maxRecDepth 100000 in
set_option maxHeartbeats 3200000 in
theorem avlDo_calls (xs : List Int) (f av : Value) (B tb : Nat) (l : List ActD) (t : AT) (w : World) (ha : SlA w B av l) (hl : l.length ≤ 7000000000) (ht : TreeAt w tb t f) (hi : t.In w) (hn : t.ids.Nodup) (ok : t.Ok) (vs : t.Vs) (hs : t.ids.length ≤ 3000000000) (hf : LessOk w B f xs) (hB : ∀ i ∈ t.ids, B ≤ i) (hB2 : B ≤ w.heap.size) (htb : B ≤ tb) :
    Calls Try.prog 35 #[.pointer (some ⟨tb, 0, none⟩), av] w fun e w' => ∃ v' cs t', e = .returned v' ∧ w'.ownsRow B 50 4 v' (runA xs t.er l).2.length cs ∧ TR w' B (runA xs t.er l).2 cs ∧ TreeAt w' tb t' f ∧ t'.In w' ∧ t'.er = (runA xs t.er l).1 ∧ t'.ids.Nodup ∧ t'.Ok ∧ t'.Vs ∧ (∀ i ∈ t'.ids, B ≤ i) ∧ t'.ids.length ≤ t.ids.length + l.length ∧ Below B w w' := by
  obtain ⟨i0, hi0, hz0, hz1, hz2⟩ := info_parts Try.infoTold
  have HInv0 : AvlInv xs f B tb l t w 0 t [] (.slice none 0 0) w := ⟨World.ownsRow_nil _ _ _ _, rfl, ht, hi, rfl, hn, ok, vs, hB, by omega, Below.refl _ _⟩
  obtain ⟨A, cap, rfl⟩ := ha.form
  have hcap : l.length ≤ 7000000000 := hl
  have HI := Lib.hid HInv0
  have HF := Lib.hid hf
  clear HInv0 hf ht hi hn ok vs hB
  go_enter Try.func35, Try.ntmps35
  go_wp2_with fail
  go_loopw [5, 11] (fun v i wr => ∃ k tk cs, k ≤ l.length ∧ i = .int .i64 (k : Nat) ∧ Hid (AvlInv xs f B tb l t w k tk cs v wr)) (fun _ i _ => l.length - (intOf i).toNat)
  case atStart => exact ⟨0, t, [], Nat.zero_le _, rfl, HI⟩
  case round =>
    obtain ⟨k, tk, cs, hk, rfl, HK⟩ := hrel
    by_cases hlt : k < l.length
    · obtain ⟨b, off, a, rfl, h1, h3, h4, ha5, z0, z1, z2⟩ := ha.at_ hlt
      obtain ⟨act, key, val⟩ := a
      have q0 := (HK.out.below.cell (p := ⟨b, off + k * 3, none⟩) h3).trans z0
      have q1 := (HK.out.below.cell (p := ⟨b, off + k * 3 + 1, none⟩) h3).trans z1
      have q2 := (HK.out.below.cell (p := ⟨b, off + k * 3 + 2, none⟩) h3).trans z2
      simp only at q0 q1 q2
      have blt : b < wr.heap.size := Nat.lt_of_lt_of_le h4 HK.out.below.size
      have HA := Lib.hid ha5
      clear ha5 z0 z1 z2
      have HW := Lib.hid ((HK.out.alloc hB2 (Obj.cells #[.int .i64 act, .int .i64 key, .int .i64 val] 52)).alloc hB2 (Obj.cells #[.int .i64 0, .bool false, .slice none 0 0, .slice none 0 0] 50))
      have HX := Lib.hid (Blk.new (wr.alloc (Obj.cells #[.int .i64 act, .int .i64 key, .int .i64 val] 52)) #[.int .i64 0, .bool false, .slice none 0 0, .slice none 0 0] 50)
      have HL := Lib.hid (HF.out.below HW.out.below)
      have hsz : (wr.alloc (Obj.cells #[.int .i64 act, .int .i64 key, .int .i64 val] 52)).heap.size = wr.heap.size + 1 := by simp
      rw [hsz] at HX
      clear hsz
      have HV := Lib.hid (show u5.ownBlock ≠ some (wr.heap.size + 1) ∧ B ≤ wr.heap.size + 1 from ⟨fun e => by have := (HK.out.own.lt _ e).2; omega, by have := HK.out.below.size; omega⟩)
      have dd : act = 0 ∨ act = 1 ∨ act = 2 ∨ act = 3 ∨ act = 4 ∨ act = 5 ∨ ((act == 0) = false ∧ (act == 1) = false ∧ (act == 2) = false ∧ (act == 3) = false ∧ (act == 4) = false ∧ (act == 5) = false) := by
        simp only [beq_eq_false_iff_ne]; omega
      refine or7 dd ?k0 ?k1 ?k2 ?k3 ?k4 ?k5 ?k6 <;> (clear dd; intro dd)
      case' k0 =>
        subst dd
        go_wp2_with fail
        generalize hW1 : (wr.alloc (Obj.cells #[.int .i64 0, .int .i64 key, .int .i64 val] 52)).alloc (Obj.cells #[.int .i64 0, .bool false, .slice none 0 0, .slice none 0 0] 50) = W1 at *
        have h := HW.out
        refine (tree_put xs f B tb key val tk W1 h.at_ h.lies h.nd h.ok (by have := h.len; omega) HL.out h.ge (Nat.le_trans hB2 h.below.size) h.apart).mono ?_
        rintro e w2 ⟨rfl, g1, g2, g3⟩
        have hid := add_ids xs key (.int .i64 val) W1.heap.size tk
        have HM := Lib.hid (AvlMid.of_write (a := ⟨0, key, val⟩) (nb := W1.heap.size) h rfl rfl HX.out g3 hB2 htb g1 g2
          (by have hlt := h.lies.lt
              rcases hid with hp | hp
              · exact hp.nodup_iff.2 h.nd
              · exact hp.nodup_iff.2 (List.nodup_cons.2 ⟨fun hx => absurd (hlt _ hx) (by omega), h.nd⟩))
          (add_ok xs key _ _ tk h.ok).1 (add_vs xs key _ ⟨val, rfl⟩ h.vs)
          (fun i hi => by
              rcases hid with hp | hp
              · exact h.ge i (hp.mem_iff.1 hi)
              · rcases List.mem_cons.1 (hp.mem_iff.1 hi) with rfl | hx
                · exact Nat.le_trans hB2 h.below.size
                · exact h.ge i hx) (grow_len hid))
        clear g1 g2 g3 hid
        go_upto_region 19 with (fail)
        have HA' := HA
        clear h HA
        have HA := HA'
        clear HA' HW HX HL HK HV q0 q1 q2 hW1 blt
        obtain ⟨c0, c1, c2, c3, cl⟩ := HM.out.cells
      case' k1 =>
        subst dd
        go_wp2_with fail
        generalize hW1 : (wr.alloc (Obj.cells #[.int .i64 1, .int .i64 key, .int .i64 val] 52)).alloc (Obj.cells #[.int .i64 0, .bool false, .slice none 0 0, .slice none 0 0] 50) = W1 at *
        have h := HW.out
        refine (tree_remove xs f B tb key tk W1 h.at_ h.lies h.nd h.ok h.vs (by have := h.len; omega) HL.out h.ge (Nat.le_trans hB2 h.below.size) h.apart).mono ?_
        rintro e w2 ⟨rfl, g1, g2, g3⟩
        obtain ⟨L, hp⟩ := rem_ids xs tk key
        have HM := Lib.hid (AvlMid.of_write (a := ⟨1, key, val⟩) (nb := 0) h rfl rfl HX.out g3 hB2 htb g1 g2
          (List.nodup_append.1 (hp.nodup_iff.2 h.nd)).2.1 (rem_ok xs tk key h.ok).1 (rem_vs xs key h.vs)
          (fun i hi => h.ge i (hp.mem_iff.1 (List.mem_append_right _ hi))) (show (tk.rem xs key).ids.length ≤ tk.ids.length + 1 by have := hp.length_eq; rw [List.length_append] at this; omega))
        clear g1 g2 g3 hp
        go_upto_region 19 with (fail)
        have HA' := HA
        clear h HA
        have HA := HA'
        clear HA' HW HX HL HK HV q0 q1 q2 hW1 blt
        obtain ⟨c0, c1, c2, c3, cl⟩ := HM.out.cells
      case' k2 =>
        subst dd
        go_wp2_with fail
        generalize hW1 : (wr.alloc (Obj.cells #[.int .i64 2, .int .i64 key, .int .i64 val] 52)).alloc (Obj.cells #[.int .i64 0, .bool false, .slice none 0 0, .slice none 0 0] 50) = W1 at *
        have h := HW.out
        refine (tree_get xs f B tb key tk W1 h.at_ h.lies h.vs HL.out).mono ?_
        rintro e w1 ⟨rfl, n1, rfl⟩
        have y0 := HX.out.cell 0
        have y1 := HX.out.cell 1
        have yf := HX.out.frozen
        simp only [List.getElem?_toArray, List.getElem?_cons_succ, List.getElem?_cons_zero] at y0 y1
        have B2 : Blk (((W1.drewN n1).setCell ⟨wr.heap.size + 1, 0, none⟩ (.int .i64 (tk.get xs key).1)).setCell ⟨wr.heap.size + 1, 1, none⟩ (.bool (tk.get xs key).2)) (wr.heap.size + 1) #[.int .i64 (tk.get xs key).1, .bool (tk.get xs key).2, .slice none 0 0, .slice none 0 0] 50 := ((HX.out.drewN n1).set 0 _).set 1 _
        have F2 : Fr [wr.heap.size + 1] W1 (((W1.drewN n1).setCell ⟨wr.heap.size + 1, 0, none⟩ (.int .i64 (tk.get xs key).1)).setCell ⟨wr.heap.size + 1, 1, none⟩ (.bool (tk.get xs key).2)) := (Fr.drewN _ _ _).comp ((Fr.setCell _ _ 0 _ (by simp)).comp (Fr.setCell _ _ 1 _ (by simp)))
        have HM := Lib.hid (AvlMid.of_fr (a := ⟨2, key, val⟩) (d := ⟨(tk.get xs key).1, (tk.get xs key).2, [], []⟩) h rfl rfl HX.out F2 HV.out.1 hB2 HV.out.2 (World.ownsRow_nil _ _ _ _) (World.ownsRow_nil _ _ _ _) B2)
        clear B2 F2
        go_upto_region 19 with (fail)
        generalize (((W1.drewN n1).setCell ⟨wr.heap.size + 1, 0, none⟩ (.int .i64 (tk.get xs key).1)).setCell ⟨wr.heap.size + 1, 1, none⟩ (.bool (tk.get xs key).2)) = w2 at *
        clear y0 y1 yf
        have HA' := HA
        clear h HA
        have HA := HA'
        clear HA' HW HX HL HK HV q0 q1 q2 hW1 blt
        obtain ⟨c0, c1, c2, c3, cl⟩ := HM.out.cells
      case' k3 =>
        subst dd
        go_wp2_with fail
        generalize hW1 : (wr.alloc (Obj.cells #[.int .i64 3, .int .i64 key, .int .i64 val] 52)).alloc (Obj.cells #[.int .i64 0, .bool false, .slice none 0 0, .slice none 0 0] 50) = W1 at *
        have h := HW.out
        refine (tree_size f tb tk W1 h.at_ h.lies (by have := h.len; omega)).mono ?_
        rintro e w1 ⟨rfl, n1, rfl⟩
        have y0 := HX.out.cell 0
        have yf := HX.out.frozen
        simp only [List.getElem?_toArray, List.getElem?_cons_zero] at y0
        have B2 : Blk ((W1.drewN n1).setCell ⟨wr.heap.size + 1, 0, none⟩ (.int .i64 tk.ids.length)) (wr.heap.size + 1) #[.int .i64 tk.ids.length, .bool false, .slice none 0 0, .slice none 0 0] 50 := (HX.out.drewN n1).set 0 _
        have F2 : Fr [wr.heap.size + 1] W1 ((W1.drewN n1).setCell ⟨wr.heap.size + 1, 0, none⟩ (.int .i64 tk.ids.length)) := (Fr.drewN _ _ _).comp (Fr.setCell _ _ 0 _ (by simp))
        have HM := Lib.hid (AvlMid.of_fr (a := ⟨3, key, val⟩) (d := ⟨tk.ids.length, false, [], []⟩) h rfl (by show ToldD.mk (tk.keys.length : Int) false [] [] = _; rw [AT.keys_len]) HX.out F2 HV.out.1 hB2 HV.out.2 (World.ownsRow_nil _ _ _ _) (World.ownsRow_nil _ _ _ _) B2)
        clear B2 F2
        go_upto_region 19 with (fail)
        generalize ((W1.drewN n1).setCell ⟨wr.heap.size + 1, 0, none⟩ (.int .i64 tk.ids.length)) = w2 at *
        clear y0 yf
        have HA' := HA
        clear h HA
        have HA := HA'
        clear HA' HW HX HL HK HV q0 q1 q2 hW1 blt
        obtain ⟨c0, c1, c2, c3, cl⟩ := HM.out.cells
      case' k4 =>
        subst dd
        go_wp2_with fail
        generalize hW1 : (wr.alloc (Obj.cells #[.int .i64 4, .int .i64 key, .int .i64 val] 52)).alloc (Obj.cells #[.int .i64 0, .bool false, .slice none 0 0, .slice none 0 0] 50) = W1 at *
        have h := HW.out
        have tx : TellX W1 W1.heap.size (wr.heap.size + 1) 0 false [] [] := ⟨none, 0, none, 0, HX.out, World.ownsRow_nil _ _ _ _, World.ownsRow_nil _ _ _ _, HX.out.lt, Nat.le_refl _, .inl rfl⟩
        refine (tree_each f tb W1.heap.size (wr.heap.size + 1) 0 false tk [] [] W1 h.at_ h.lies h.vs (fun x hx => ⟨h.lies.lt x hx, fun e => by
            rw [List.mem_singleton.1 e] at hx
            obtain ⟨cs, hc⟩ := h.lies.type hx
            exact absurd (Blk.ty hc HX.out) (by decide)⟩) tx (by have := h.len; simp; omega) (by have := h.len; simp; omega)).mono ?_
        rintro e w2 ⟨rfl, ⟨ka, kc, va, vc, g1⟩, g2⟩
        have hBW := Nat.le_trans hB2 h.below.size
        have HM := Lib.hid (AvlMid.of_fr (a := ⟨4, key, val⟩) (d := ⟨0, false, tk.keys, tk.vals⟩) h rfl rfl HX.out ⟨g2.os, g2.tape, g2.output, g2.size, g2.block⟩ HV.out.1 hB2 HV.out.2 (own_weaken g1.keys hBW) (own_weaken g1.vals hBW) g1.blk)
        clear g1 g2 tx
        go_upto_region 19 with (fail)
        have HA' := HA
        clear h HA
        have HA := HA'
        clear HA' HW HX HL HK HV q0 q1 q2 hW1 blt
        obtain ⟨c0, c1, c2, c3, cl⟩ := HM.out.cells
      case' k5 =>
        subst dd
        go_wp2_with fail
        generalize hW1 : (wr.alloc (Obj.cells #[.int .i64 5, .int .i64 key, .int .i64 val] 52)).alloc (Obj.cells #[.int .i64 0, .bool false, .slice none 0 0, .slice none 0 0] 50) = W1 at *
        have h := HW.out
        refine (tree_height f tb tk W1 h.at_ h.lies).mono ?_
        rintro e w1 ⟨rfl, n1, rfl⟩
        have y0 := HX.out.cell 0
        have yf := HX.out.frozen
        simp only [List.getElem?_toArray, List.getElem?_cons_zero] at y0
        have B2 : Blk ((W1.drewN n1).setCell ⟨wr.heap.size + 1, 0, none⟩ (.int .i64 tk.ht)) (wr.heap.size + 1) #[.int .i64 tk.ht, .bool false, .slice none 0 0, .slice none 0 0] 50 := (HX.out.drewN n1).set 0 _
        have F2 : Fr [wr.heap.size + 1] W1 ((W1.drewN n1).setCell ⟨wr.heap.size + 1, 0, none⟩ (.int .i64 tk.ht)) := (Fr.drewN _ _ _).comp (Fr.setCell _ _ 0 _ (by simp))
        have HM := Lib.hid (AvlMid.of_fr (a := ⟨5, key, val⟩) (d := ⟨tk.ht, false, [], []⟩) h rfl rfl HX.out F2 HV.out.1 hB2 HV.out.2 (World.ownsRow_nil _ _ _ _) (World.ownsRow_nil _ _ _ _) B2)
        clear B2 F2
        go_upto_region 19 with (fail)
        generalize ((W1.drewN n1).setCell ⟨wr.heap.size + 1, 0, none⟩ (.int .i64 tk.ht)) = w2 at *
        clear y0 yf
        have HA' := HA
        clear h HA
        have HA := HA'
        clear HA' HW HX HL HK HV q0 q1 q2 hW1 blt
        obtain ⟨c0, c1, c2, c3, cl⟩ := HM.out.cells
      case' k6 =>
        obtain ⟨e0, e1, e2, e3, e4, e5⟩ := dd
        go_upto_region 19 with (fail)
        have h := HW.out
        have HM := Lib.hid (AvlMid.of_fr (a := ⟨act, key, val⟩) (d := .none) h (by unfold stepA; simp_all) (by unfold stepA; simp_all) HX.out (Fr.refl _ _) HV.out.1 hB2 HV.out.2 (World.ownsRow_nil _ _ _ _) (World.ownsRow_nil _ _ _ _) HX.out)
        clear e0 e1 e2 e3 e4 e5
        generalize hW1 : (wr.alloc (Obj.cells #[.int .i64 act, .int .i64 key, .int .i64 val] 52)).alloc (Obj.cells #[.int .i64 0, .bool false, .slice none 0 0, .slice none 0 0] 50) = w2 at *
        have HA' := HA
        clear h HA
        have HA := HA'
        clear HA' HW HX HL HK HV q0 q1 q2 hW1 blt
        obtain ⟨c0, c1, c2, c3, cl⟩ := HM.out.cells
      all_goals
        go_wp2_with (at_builtin; refine wpList_append_own _ rfl (.tmp 57) (.tmp 59) 25 rfl B 50 i0 _ 4 64 Try.underlying25 hi0 hz0 hz1 hz2 rfl (by omega) u5 k cs rfl (HM.out.own.alloc _) ⟨w2.heap.size, 0, none⟩ 1 1 _ rfl rfl (news_blk (Blk.new w2 _ _)) (by simp [Value.oneCell']) (by unfold maxLen; omega) (by omega) (by have := HM.out.below.size; simp; omega) ?_; intro v' w3 hown' hgrow _)
        exact ⟨⟨k + 1, _, _, by omega, by go_num, Lib.hid (HM.out.next HA.out hB2 hown' hgrow)⟩, by simp [intOf]; omega⟩
    · have : k = l.length := by omega
      subst this
      go_wp2_with fail
      go_ret
      have h := HK.out
      exact ⟨u5, cs, tk, rfl, by rw [runA_len]; exact h.own, by have := h.tr; rwa [List.take_length] at this, h.at_, h.lies, by have := h.er; rwa [List.take_length] at this, h.nd, h.ok, h.vs, h.ge, h.len, h.below⟩
end Go.Proofs.Ytjbelfbfhcmgeaa
