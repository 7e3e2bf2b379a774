/- steps of scripts, and what they tell, as rows in memory. -/
import Derived.Test.YtinajjceojfflaaProg
import Derived.Test.YtinajjceojfflaaIntRow
import Derived.Test.YtinajjceojfflaaFrB
namespace Go.Proofs.Ytinajjceojfflaa
open Go.RowKit

/-- a step of a script. -/
structure StepD where
  on : Int
  act : Int
  key : Int
  val : Int
def stepCell (a : StepD) : List Value := [.int .i64 a.on, .int .i64 a.act, .int .i64 a.key, .int .i64 a.val]
theorem stepCell_len (a : StepD) : (stepCell a).length = 4 := rfl
/-- what a step tells. -/
structure SeenD where
  n : Int
  ok : Bool
  keys : List Int
  vals : List Int
def SeenD.none : SeenD := ⟨0, false, [], []⟩
theorem own_form {w : World} {B : Nat} {e : TypeId} {sz n : Nat} {v : Value} {xs : List Value} (h : w.ownsRow B e sz v n xs) : ∃ A c, v = .slice A n c := by
  rcases h.2 with ⟨e, h0⟩ | ⟨g, cap, cur, e, _⟩
  · subst h0; exact ⟨_, _, e⟩
  · exact ⟨_, _, e⟩
theorem own_weaken {w : World} {B B' : Nat} {e : TypeId} {s n : Nat} {v : Value} {xs : List Value} (h : w.ownsRow B' e s v n xs) (hB : B ≤ B') : w.ownsRow B e s v n xs := by
  refine ⟨h.1, h.2.imp id ?_⟩
  rintro ⟨g, cap, cur, e1, e2, e3⟩
  exact ⟨g, cap, cur, e1, Nat.le_trans hB e2, e3⟩
/-- rows of ints stay. -/
def KeepsInts (w w' : World) : Prop := ∀ (g : Nat) (cur : Array Value), w.heap[g]? = some (Obj.cells cur 3 (0, 0)) → w'.heap[g]? = some (Obj.cells cur 3 (0, 0))
theorem KeepsInts.refl (w : World) : KeepsInts w w := fun _ _ h => h
theorem KeepsInts.trans {a b c : World} (h : KeepsInts a b) (k : KeepsInts b c) : KeepsInts a c := fun g cur hg => k g cur (h g cur hg)
theorem KeepsInts.own {w w' : World} (h : KeepsInts w w') {B n : Nat} {v : Value} {xs : List Value} (ho : w.ownsRow B 3 1 v n xs) : w'.ownsRow B 3 1 v n xs := by
  refine ⟨ho.1, ho.2.imp id ?_⟩
  rintro ⟨g, cap, cur, a1, a2, a3, a4⟩
  exact ⟨g, cap, cur, a1, a2, h g cur a3, a4⟩
theorem KeepsInts.fr {S : List Nat} {w w' : World} (hf : Fr S w w') (hS : ∀ b ∈ S, ∃ cs T, Blk w b cs T ∧ T ≠ 3) : KeepsInts w w' := fun g cur hg => by
  have hl : g < w.heap.size := (Array.getElem?_eq_some_iff.1 hg).1
  rw [hf.block g hl (fun hx => by
    obtain ⟨cs, T, hb, hT⟩ := hS g hx
    unfold Blk at hb
    rw [hb] at hg
    simp at hg
    exact hT hg.2)]
  exact hg
theorem KeepsInts.grown {w w' : World} {row : Option Nat} (hf : w.grownBy w' row) (hS : ∀ b, row = some b → ∃ cs T, Blk w b cs T ∧ T ≠ 3) : KeepsInts w w' := fun g cur hg => by
  have hl : g < w.heap.size := (Array.getElem?_eq_some_iff.1 hg).1
  rw [hf.block g hl (fun hx => by
    obtain ⟨cs, T, hb, hT⟩ := hS g hx.symm
    unfold Blk at hb
    rw [hb] at hg
    simp at hg
    exact hT hg.2)]
  exact hg
theorem KeepsInts.below {w w' : World} (hf : Below w.heap.size w w') : KeepsInts w w' := fun g cur hg => by
  have hl : g < w.heap.size := (Array.getElem?_eq_some_iff.1 hg).1
  rw [hf.block g hl]; exact hg
theorem KeepsInts.alloc (w : World) (o : Obj) : KeepsInts w (w.alloc o) := KeepsInts.below ((Below.refl _ w).alloc (Nat.le_refl _) o)
/-- a slice of ints in a block of ints. -/
def IntSl (w : World) (v : Value) (xs : List Int) : Prop := ∃ A cap, v = .slice A xs.length cap ∧ (xs = [] ∨ ∃ b off cur, A = some ⟨b, off, none⟩ ∧ xs.length ≤ cap ∧ w.heap[b]? = some (Obj.cells cur 3 (0, 0)) ∧ ∀ i, i < xs.length → cur[off + i]? = some (.int .i64 (xs.getD i 0)))
theorem IntSl.keep {w w' : World} {v : Value} {xs : List Int} (h : IntSl w v xs) (k : KeepsInts w w') : IntSl w' v xs := by
  obtain ⟨A, cap, e, h⟩ := h
  refine ⟨A, cap, e, h.imp id ?_⟩
  rintro ⟨b, off, cur, e, h1, h2, h3⟩
  exact ⟨b, off, cur, e, h1, k _ _ h2, h3⟩
theorem IntSl.nil (w : World) : IntSl w (.slice none 0 0) [] := ⟨none, 0, rfl, .inl rfl⟩
theorem getD_get {xs : List Int} {i : Nat} (h : i < xs.length) : xs[i]? = some (xs.getD i 0) := by rw [List.getD_eq_getElem?_getD, List.getElem?_eq_getElem h]; rfl
theorem own_IntSl {w : World} {B n : Nat} {v : Value} {xs : List Int} (h : w.ownsRow B 3 1 v n (xs.map i64v)) : IntSl w v xs := by
  have hn : xs.length = n * 1 := by have := h.1; rwa [List.length_map] at this
  rw [Nat.mul_one] at hn
  subst hn
  rcases h.2 with ⟨e, h0⟩ | ⟨g, cap, cur, e, h1, h2, h3, h4, h5, h6⟩
  · exact ⟨_, _, by rw [e, h0], .inl (List.length_eq_zero_iff.1 h0)⟩
  · refine ⟨_, cap, e, .inr ⟨g, 0, cur, rfl, h3, h2, fun i hi => ?_⟩⟩
    have h7 : (xs.map i64v)[i]? = some (i64v (xs.getD i 0)) := by rw [List.getElem?_map, getD_get hi]; rfl
    rw [← h6, List.getElem?_take_of_lt (by omega)] at h7
    rw [Nat.zero_add]
    simpa using h7
theorem IntSl.toI {w : World} {v : Value} {xs : List Int} (h : IntSl w v xs) : SlI w w.heap.size v xs := by
  obtain ⟨A, cap, e, h⟩ := h
  refine ⟨A, cap, e, h.imp id ?_⟩
  rintro ⟨b, off, cur, e, h1, h2, h3⟩
  have hl : b < w.heap.size := (Array.getElem?_eq_some_iff.1 h2).1
  refine ⟨b, off, e, h1, hl, hl, fun i a hi j u hj => ?_⟩
  have hil := (List.getElem?_eq_some_iff.1 hi).1
  cases j with
  | succ j => simp [int1] at hj
  | zero =>
    simp only [int1, List.getElem?_cons_zero, Option.some.injEq] at hj
    rw [getD_get hil] at hi
    cases hi
    have := (show Blk w b cur _ from h2).cell (off + i)
    rw [Nat.mul_one, Nat.add_zero, this, h3 i hil, ← hj]
/-- rows that tell, as they lie. -/
def TR (w : World) : List SeenD → List Value → Prop
  | [], cs => cs = []
  | d :: ds, cs => ∃ ka kc va vc rest, cs = .int .i64 d.n :: .bool d.ok :: .slice ka d.keys.length kc :: .slice va d.vals.length vc :: rest ∧
      IntSl w (.slice ka d.keys.length kc) d.keys ∧ IntSl w (.slice va d.vals.length vc) d.vals ∧ TR w ds rest
theorem KeepsInts.tr {w w' : World} (h : KeepsInts w w') : ∀ {ds : List SeenD} {cs : List Value}, TR w ds cs → TR w' ds cs
  | [], _, ht => ht
  | _ :: _, _, ⟨ka, kc, va, vc, rest, e, h1, h2, h3⟩ => ⟨ka, kc, va, vc, rest, e, h1.keep h, h2.keep h, h.tr h3⟩
theorem TR.len {w : World} : ∀ {ds : List SeenD} {cs : List Value}, TR w ds cs → cs.length = 4 * ds.length
  | [], _, h => by rw [h]; rfl
  | _ :: _, _, ⟨_, _, _, _, _, e, _, _, h3⟩ => by rw [e]; simp [TR.len h3]; omega
theorem TR.snoc {w : World} {d : SeenD} {ka va : Option Addr} {kc vc : Nat} (h1 : IntSl w (.slice ka d.keys.length kc) d.keys) (h2 : IntSl w (.slice va d.vals.length vc) d.vals) :
    ∀ {ds : List SeenD} {cs : List Value}, TR w ds cs → TR w (ds ++ [d]) (cs ++ [.int .i64 d.n, .bool d.ok, .slice ka d.keys.length kc, .slice va d.vals.length vc])
  | [], _, h => by rw [h]; exact ⟨ka, kc, va, vc, [], rfl, h1, h2, rfl⟩
  | _ :: _, _, ⟨ka', kc', va', vc', rest, e1, g1, g2, h3⟩ => by rw [e1]; exact ⟨ka', kc', va', vc', _, rfl, g1, g2, TR.snoc h1 h2 h3⟩
theorem TR.at_ {w : World} : ∀ {ds : List SeenD} {cs : List Value} {i : Nat} {d : SeenD}, TR w ds cs → ds[i]? = some d → ∃ ka kc va vc, cs[i * 4]? = some (.int .i64 d.n) ∧ cs[i * 4 + 1]? = some (.bool d.ok) ∧
    cs[i * 4 + 2]? = some (.slice ka d.keys.length kc) ∧ cs[i * 4 + 3]? = some (.slice va d.vals.length vc) ∧ IntSl w (.slice ka d.keys.length kc) d.keys ∧ IntSl w (.slice va d.vals.length vc) d.vals
  | [], _, i, d, _, h => by simp at h
  | _ :: _, _, 0, d, ⟨ka, kc, va, vc, rest, e, h1, h2, _⟩, h => by
    simp at h; subst h; subst e
    exact ⟨ka, kc, va, vc, rfl, rfl, rfl, rfl, h1, h2⟩
  | _ :: ds, _, i + 1, d, ⟨ka, kc, va, vc, rest, e, _, _, h3⟩, h => by
    obtain ⟨ka', kc', va', vc', g0, g1, g2, g3, g4, g5⟩ := TR.at_ h3 (show ds[i]? = some d by simpa using h)
    subst e
    have q : ∀ j, (i + 1) * 4 + j = i * 4 + j + 4 := by omega
    refine ⟨ka', kc', va', vc', ?_, ?_, ?_, ?_, g4, g5⟩
    · rw [show (i + 1) * 4 = i * 4 + 4 by omega]; simpa using g0
    · rw [q]; simpa using g1
    · rw [q]; simpa using g2
    · rw [q]; simpa using g3
/-- what a script told: a row of one's own. -/
def Seens (w : World) (B : Nat) (v : Value) (ds : List SeenD) : Prop := ∃ cs, w.ownsRow B 31 4 v ds.length cs ∧ TR w ds cs
theorem Try.infoSeen : (Try.prog.info? 31).map (fun i => (i.zero, i.size, i.bytes)) = some (some (.agg #[.int .i64 0, .bool false, .slice none 0 0, .slice none 0 0]), 4, 64) := by kernel_rfl
theorem news_blk {W : World} {b : Nat} {cs : List Value} {T : TypeId} (h : Blk W b cs.toArray T) : ∀ j u, cs[j]? = some u → W.cell? ((⟨b, 0, none⟩ : Addr).add j) = some u := by
  intro j u hj
  have e : ((⟨b, 0, none⟩ : Addr).add j) = ⟨b, j, none⟩ := by unfold Addr.add; split <;> simp_all
  rw [e, h.cell j]
  simpa using hj
theorem Blk.ty {w : World} {b : Nat} {cs cs' : Array Value} {T T' : TypeId} (h : Blk w b cs T) (h' : Blk w b cs' T') : T = T' := by
  unfold Blk at h h'; rw [h] at h'; simp at h'; exact h'.2
/-- the rows told so far, at a round's head: v the slice. -/
structure Outs (B k : Nat) (ds : List SeenD) (cs : List Value) (v : Value) (w wr : World) : Prop where
  own : wr.ownsRow B 31 4 v k cs
  tr : TR wr ds cs
  below : Below B w wr
theorem Outs.start (w : World) (B : Nat) : Outs B 0 [] [] (.slice none 0 0) w w := ⟨World.ownsRow_nil _ _ _ _, rfl, Below.refl _ _⟩
theorem Outs.alloc {B k : Nat} {ds : List SeenD} {cs : List Value} {v : Value} {w wr : World} (h : Outs B k ds cs v w wr) (hB : B ≤ w.heap.size) (o : Obj) : Outs B k ds cs v w (wr.alloc o) :=
  ⟨h.own.alloc _, (KeepsInts.alloc _ _).tr h.tr, h.below.alloc (Nat.le_trans hB h.below.size) _⟩
/-- blocks of other kinds, and what is new, may be written. -/
theorem Outs.fr {B k : Nat} {ds : List SeenD} {cs : List Value} {v : Value} {w wr w2 : World} (h : Outs B k ds cs v w wr) (hB : B ≤ w.heap.size) {S : List Nat} (hf : Fr S wr w2)
    (hS : ∀ b ∈ S, B ≤ b ∧ v.ownBlock ≠ some b ∧ ∃ cs T, Blk wr b cs T ∧ T ≠ 3) : Outs B k ds cs v w w2 := by
  refine ⟨⟨h.own.1, h.own.2.imp id ?_⟩, (KeepsInts.fr hf (fun b hb => (hS b hb).2.2)).tr h.tr, h.below.trans (hf.below (fun b hb => (hS b hb).1) (Nat.le_trans hB h.below.size))⟩
  rintro ⟨g, cap, cur, e1, e2, e3, e4⟩
  exact ⟨g, cap, cur, e1, e2, (show Blk w2 g cur _ from Blk.fr (show Blk wr g cur _ from e3) hf (fun e => (hS g e).2.1 (by rw [e1]; rfl))), e4⟩
theorem Outs.not_own {B k : Nat} {ds : List SeenD} {cs : List Value} {v : Value} {w wr : World} (h : Outs B k ds cs v w wr) {b : Nat} {cb : Array Value} {T : TypeId} (hb : Blk wr b cb T) (hT : T ≠ 31) : v.ownBlock ≠ some b := fun e => by
  rcases h.own.2 with ⟨e1, _⟩ | ⟨g, cap, cur, e1, _, hc, _⟩
  · rw [e1] at e; cases e
  · rw [e1] at e; cases e
    exact hT (Blk.ty hb hc)
/-- the append of one more. -/
theorem Outs.next {B k : Nat} {ds : List SeenD} {cs : List Value} {v v' : Value} {w wr w2 : World} {d : SeenD} {ka va : Option Addr} {kc vc : Nat} {o : Obj} (h : Outs B k ds cs v w wr) (hB : B ≤ w.heap.size)
    (hk : IntSl wr (.slice ka d.keys.length kc) d.keys) (hv : IntSl wr (.slice va d.vals.length vc) d.vals)
    (ho : w2.ownsRow B 31 4 v' (k + 1) (cs ++ [.int .i64 d.n, .bool d.ok, .slice ka d.keys.length kc, .slice va d.vals.length vc])) (hg : (wr.alloc o).grownBy w2 v.ownBlock) :
    Outs B (k + 1) (ds ++ [d]) (cs ++ [.int .i64 d.n, .bool d.ok, .slice ka d.keys.length kc, .slice va d.vals.length vc]) v' w w2 := by
  have K : KeepsInts wr w2 := (KeepsInts.alloc wr o).trans (KeepsInts.grown hg (fun b hb => by
    rcases h.own.2 with ⟨e, _⟩ | ⟨g, cap, cur, e, _, hc, _⟩
    · rw [e] at hb; cases hb
    · rw [e] at hb; cases hb
      exact ⟨cur, _, (show Blk wr _ _ _ from hc).alloc o, by decide⟩))
  have hb := h.below.alloc (Nat.le_trans hB h.below.size) o
  exact ⟨ho, TR.snoc (hk.keep K) (hv.keep K) (K.tr h.tr), hb.grown hg (Nat.le_trans hB hb.size) (fun g hg => (h.own.lt g hg).1)⟩
/-- a block that is no row of what was told stays behind the append. -/
theorem Outs.other {B k : Nat} {ds : List SeenD} {cs : List Value} {v : Value} {w wr w2 : World} {o : Obj} (h : Outs B k ds cs v w wr) (hg : (wr.alloc o).grownBy w2 v.ownBlock) {b : Nat} {cb : Array Value} {T : TypeId} (hb : Blk wr b cb T) (hT : T ≠ 31) : Blk w2 b cb T :=
  (hb.alloc o).grown hg (fun e => h.not_own hb hT e.symm)
theorem Outs.frOwn {B k : Nat} {ds : List SeenD} {cs : List Value} {v : Value} {w wr w2 : World} {o : Obj} (_h : Outs B k ds cs v w wr) (hg : (wr.alloc o).grownBy w2 v.ownBlock) : Fr v.ownBlock.toList wr w2 :=
  (Fr.alloc [] wr o).trans (S2 := v.ownBlock.toList) ⟨hg.os, hg.tape, hg.output, hg.size, fun k hk hn => hg.block k hk (fun e => hn (by rw [← e]; simp))⟩ (fun _ h => by cases h) (fun _ h => .inl h)
theorem Outs.seens {B : Nat} {ds : List SeenD} {cs : List Value} {v : Value} {w wr : World} (h : Outs B ds.length ds cs v w wr) : Seens wr B v ds := ⟨cs, h.own, h.tr⟩
end Go.Proofs.Ytinajjceojfflaa
