/- marks, spans and what steps tell, as rows in memory; the walk over all intervals. -/
import Derived.Test.YtomclflknjkhfaaItvR
import Derived.Test.YtomclflknjkhfaaItE
namespace Go.Proofs.Ytomclflknjkhfaa
open Go.RowKit ItP

def markCell (a : MarkD) : List Value := [.int .i64 a.act, .int .i64 a.lo, .int .i64 a.hi, .int .i64 a.val]
theorem markCell_len (a : MarkD) : (markCell a).length = 4 := rfl
theorem Try.infoSpan : (Try.prog.info? 46).map (fun i => (i.zero, i.size, i.bytes)) = some (some (.agg #[.int .i64 0, .int .i64 0, .int .i64 0]), 3, 24) := by kernel_rfl
theorem Try.infoFound : (Try.prog.info? 52).map (fun i => (i.zero, i.size, i.bytes)) = some (some (.agg #[.int .i64 0, .int .i64 0, .int .i64 0, .bool false, .slice none 0 0, .int .i64 0]), 6, 64) := by kernel_rfl
/-- rows of spans stay. -/
def KeepsSp (w w' : World) : Prop := ∀ (g : Nat) (cur : Array Value), Blk w g cur 46 → Blk w' g cur 46
theorem KeepsSp.refl (w : World) : KeepsSp w w := fun _ _ h => h
theorem KeepsSp.trans {a b c : World} (h : KeepsSp a b) (k : KeepsSp b c) : KeepsSp a c := fun g cur hg => k g cur (h g cur hg)
theorem KeepsSp.fr {S : List Nat} {w w' : World} (hf : Fr S w w') (hS : ∀ b ∈ S, ∃ cs T, Blk w b cs T ∧ T ≠ 46) : KeepsSp w w' := fun g cur hg => hg.fr hf fun hx => by
  obtain ⟨cs, T, hb, hT⟩ := hS g hx
  exact hT (Blk.ty hb hg)
theorem KeepsSp.grown {w w' : World} {row : Option Nat} (hf : w.grownBy w' row) (hS : ∀ b, row = some b → ∃ cs T, Blk w b cs T ∧ T ≠ 46) : KeepsSp w w' := fun g cur hg => hg.grown hf fun hx => by
  obtain ⟨cs, T, hb, hT⟩ := hS g hx.symm
  exact hT (Blk.ty hb hg)
theorem KeepsSp.below {w w' : World} (hf : Below w.heap.size w w') : KeepsSp w w' := fun _ _ hg => hg.below hf hg.lt
theorem KeepsSp.alloc (w : World) (o : Obj) : KeepsSp w (w.alloc o) := fun _ _ hg => hg.alloc o
/-- a slice of spans in a block of spans. -/
def SpSl (w : World) (v : Value) (xs : List Sp) : Prop := ∃ A cap, v = .slice A xs.length cap ∧ (xs = [] ∨ ∃ b off cur, A = some ⟨b, off, none⟩ ∧ xs.length ≤ cap ∧ Blk w b cur 46 ∧ ∀ i s, xs[i]? = some s → ∀ j u, (spC s)[j]? = some u → cur[off + i * 3 + j]? = some u)
theorem SpSl.keep {w w' : World} {v : Value} {xs : List Sp} (h : SpSl w v xs) (k : KeepsSp w w') : SpSl w' v xs := by
  obtain ⟨A, cap, e, h⟩ := h
  refine ⟨A, cap, e, h.imp id ?_⟩
  rintro ⟨b, off, cur, e, h1, h2, h3⟩
  exact ⟨b, off, cur, e, h1, k _ _ h2, h3⟩
theorem SpSl.nil (w : World) : SpSl w (.slice none 0 0) [] := ⟨none, 0, rfl, .inl rfl⟩
theorem own_SpSl {w : World} {B n : Nat} {v : Value} {xs : List Sp} (h : w.ownsRow B 46 3 v n (xs.flatMap spC)) (hn : xs.length = n) : SpSl w v xs := by
  subst hn
  rcases h.2 with ⟨e, h0⟩ | ⟨g, cap, cur, e, h1, h2, h3, h4, h5, h6⟩
  · exact ⟨_, _, by rw [e, h0], .inl (List.length_eq_zero_iff.1 h0)⟩
  · refine ⟨_, cap, e, .inr ⟨g, 0, cur, rfl, h3, h2, fun i s hi j u hj => ?_⟩⟩
    have hil : i < xs.length := (List.getElem?_eq_some_iff.1 hi).1
    have hjl : j < 3 := by rw [← spC_len s]; exact (List.getElem?_eq_some_iff.1 hj).1
    have a0 := flat_get spC_len xs i s hi j u hj
    have hlt : i * 3 + j < xs.length * 3 := by omega
    rw [← h6, List.getElem?_take_of_lt hlt] at a0
    rw [Nat.zero_add, ← a0]; simp
theorem SpSl.toC {w : World} {v : Value} {xs : List Sp} (h : SpSl w v xs) : SlC 3 spC w w.heap.size v xs := by
  obtain ⟨A, cap, e, h⟩ := h
  refine ⟨⟨A, cap, e, h.imp id ?_⟩⟩
  rintro ⟨b, off, cur, e, h1, h2, h3⟩
  exact ⟨b, off, e, h1, h2.lt, h2.lt, fun i a hi j u hj => by rw [h2.cell]; exact h3 i a hi j u hj⟩
/-- rows that tell, as they lie. -/
def FR (w : World) : List FoundD → List Value → Prop
  | [], cs => cs = []
  | d :: ds, cs => ∃ A c rest, cs = .int .i64 d.one.lo :: .int .i64 d.one.hi :: .int .i64 d.one.v :: .bool d.ok :: .slice A d.all.length c :: .int .i64 d.n :: rest ∧ SpSl w (.slice A d.all.length c) d.all ∧ FR w ds rest
theorem KeepsSp.fr' {w w' : World} (h : KeepsSp w w') : ∀ {ds : List FoundD} {cs : List Value}, FR w ds cs → FR w' ds cs
  | [], _, ht => ht
  | _ :: _, _, ⟨A, c, rest, e, h1, h3⟩ => ⟨A, c, rest, e, h1.keep h, h.fr' h3⟩
theorem FR.len {w : World} : ∀ {ds : List FoundD} {cs : List Value}, FR w ds cs → cs.length = 6 * ds.length
  | [], _, h => by rw [h]; rfl
  | _ :: _, _, ⟨_, _, _, e, _, h3⟩ => by rw [e]; simp [FR.len h3]; omega
theorem FR.snoc {w : World} {d : FoundD} {A : Option Addr} {c : Nat} (h1 : SpSl w (.slice A d.all.length c) d.all) :
    ∀ {ds : List FoundD} {cs : List Value}, FR w ds cs → FR w (ds ++ [d]) (cs ++ [.int .i64 d.one.lo, .int .i64 d.one.hi, .int .i64 d.one.v, .bool d.ok, .slice A d.all.length c, .int .i64 d.n])
  | [], _, h => by rw [h]; exact ⟨A, c, [], rfl, h1, rfl⟩
  | _ :: _, _, ⟨A', c', rest, e1, g1, h3⟩ => by rw [e1]; exact ⟨A', c', _, rfl, g1, FR.snoc h1 h3⟩
theorem FR.at_ {w : World} : ∀ {ds : List FoundD} {cs : List Value} {i : Nat} {d : FoundD}, FR w ds cs → ds[i]? = some d → ∃ A c, cs[i * 6]? = some (.int .i64 d.one.lo) ∧ cs[i * 6 + 1]? = some (.int .i64 d.one.hi) ∧ cs[i * 6 + 2]? = some (.int .i64 d.one.v) ∧ cs[i * 6 + 3]? = some (.bool d.ok) ∧
    cs[i * 6 + 4]? = some (.slice A d.all.length c) ∧ cs[i * 6 + 5]? = some (.int .i64 d.n) ∧ SpSl w (.slice A d.all.length c) d.all
  | [], _, i, d, _, h => by simp at h
  | _ :: _, _, 0, d, ⟨A, c, rest, e, h1, _⟩, h => by
    simp at h; subst h; subst e
    exact ⟨A, c, rfl, rfl, rfl, rfl, rfl, rfl, h1⟩
  | _ :: ds, _, i + 1, d, ⟨A, c, rest, e, _, h3⟩, h => by
    obtain ⟨A', c', g0, g1, g2, g3, g4, g5, g6⟩ := FR.at_ h3 (show ds[i]? = some d by simpa using h)
    subst e
    have q : ∀ j, (i + 1) * 6 + j = i * 6 + j + 6 := by omega
    refine ⟨A', c', ?_, ?_, ?_, ?_, ?_, ?_, g6⟩
    · rw [show (i + 1) * 6 = i * 6 + 6 by omega]; simpa using g0
    all_goals rw [q]
    · simpa using g1
    · simpa using g2
    · simpa using g3
    · simpa using g4
    · simpa using g5
/-- what a script told: a row of one's own. -/
def Founds (w : World) (B : Nat) (v : Value) (ds : List FoundD) : Prop := ∃ cs, w.ownsRow B 52 6 v ds.length cs ∧ FR w ds cs
theorem Founds.below {w w' : World} {B : Nat} {v : Value} {ds : List FoundD} (h : Founds w B v ds) (hb : Below w.heap.size w w') : Founds w' B v ds := by
  obtain ⟨cs, ho, ht⟩ := h
  refine ⟨cs, ⟨ho.1, ho.2.imp id ?_⟩, (KeepsSp.below hb).fr' ht⟩
  rintro ⟨g, cap, cur, e1, e2, e3, e4⟩
  exact ⟨g, cap, cur, e1, e2, (show Blk w' g cur _ from (show Blk w g cur _ from e3).below hb (show Blk w g cur _ from e3).lt), e4⟩
/-- the rows told so far, at a round's head: v the slice. -/
structure FOuts (B k : Nat) (ds : List FoundD) (cs : List Value) (v : Value) (w wr : World) : Prop where
  own : wr.ownsRow B 52 6 v k cs
  tr : FR wr ds cs
  below : Below B w wr
theorem FOuts.start (w : World) (B : Nat) : FOuts B 0 [] [] (.slice none 0 0) w w := ⟨World.ownsRow_nil _ _ _ _, rfl, Below.refl _ _⟩
theorem FOuts.alloc {B k : Nat} {ds : List FoundD} {cs : List Value} {v : Value} {w wr : World} (h : FOuts B k ds cs v w wr) (hB : B ≤ w.heap.size) (o : Obj) : FOuts B k ds cs v w (wr.alloc o) :=
  ⟨h.own.alloc _, (KeepsSp.alloc _ _).fr' h.tr, h.below.alloc (Nat.le_trans hB h.below.size) _⟩
/-- blocks of other kinds, and what is new, may be written. -/
theorem FOuts.fr {B k : Nat} {ds : List FoundD} {cs : List Value} {v : Value} {w wr w2 : World} (h : FOuts B k ds cs v w wr) (hB : B ≤ w.heap.size) {S : List Nat} (hf : Fr S wr w2)
    (hS : ∀ b ∈ S, B ≤ b ∧ v.ownBlock ≠ some b ∧ ∃ cs T, Blk wr b cs T ∧ T ≠ 46) : FOuts B k ds cs v w w2 :=
  ⟨own_fr h.own hf (fun b hb => (hS b hb).2.1), (KeepsSp.fr hf (fun b hb => (hS b hb).2.2)).fr' h.tr, h.below.trans (hf.below (fun b hb => (hS b hb).1) (Nat.le_trans hB h.below.size))⟩
theorem FOuts.not_own {B k : Nat} {ds : List FoundD} {cs : List Value} {v : Value} {w wr : World} (h : FOuts B k ds cs v w wr) {b : Nat} {cb : Array Value} {T : TypeId} (hb : Blk wr b cb T) (hT : T ≠ 52) : v.ownBlock ≠ some b := fun e => by
  obtain ⟨c, hc, _⟩ := own_ty h.own e
  exact hT (Blk.ty hb hc)
/-- the append of one more. -/
theorem FOuts.next {B k : Nat} {ds : List FoundD} {cs : List Value} {v v' : Value} {w wr w2 : World} {d : FoundD} {A : Option Addr} {c : Nat} {o : Obj} (h : FOuts B k ds cs v w wr) (hB : B ≤ w.heap.size)
    (hk : SpSl wr (.slice A d.all.length c) d.all)
    (ho : w2.ownsRow B 52 6 v' (k + 1) (cs ++ [.int .i64 d.one.lo, .int .i64 d.one.hi, .int .i64 d.one.v, .bool d.ok, .slice A d.all.length c, .int .i64 d.n])) (hg : (wr.alloc o).grownBy w2 v.ownBlock) :
    FOuts B (k + 1) (ds ++ [d]) (cs ++ [.int .i64 d.one.lo, .int .i64 d.one.hi, .int .i64 d.one.v, .bool d.ok, .slice A d.all.length c, .int .i64 d.n]) v' w w2 := by
  have K : KeepsSp wr w2 := (KeepsSp.alloc wr o).trans (KeepsSp.grown hg (fun b hb => by
    obtain ⟨cur, hc, _⟩ := own_ty (h.own.alloc o) hb
    exact ⟨cur, _, hc, by decide⟩))
  have hb := h.below.alloc (Nat.le_trans hB h.below.size) o
  exact ⟨ho, FR.snoc (hk.keep K) (K.fr' h.tr), hb.grown hg (Nat.le_trans hB hb.size) (fun g hg => (h.own.lt g hg).1)⟩
theorem FOuts.frOwn {B k : Nat} {ds : List FoundD} {cs : List Value} {v : Value} {w wr w2 : World} {o : Obj} (_h : FOuts B k ds cs v w wr) (hg : (wr.alloc o).grownBy w2 v.ownBlock) : Fr v.ownBlock.toList wr w2 :=
  (Fr.alloc [] wr o).trans (S2 := v.ownBlock.toList) ⟨hg.os, hg.tape, hg.output, hg.size, fun k hk hn => hg.block k hk (fun e => hn (by rw [← e]; simp))⟩ (fun _ h => by cases h) (fun _ h => .inl h)
theorem FOuts.founds {B : Nat} {ds : List FoundD} {cs : List Value} {v : Value} {w wr : World} (h : FOuts B ds.length ds cs v w wr) : Founds wr B v ds := ⟨cs, h.own, h.tr⟩
/-- what a step tells, in a block of its own, while its spans are told. -/
structure FndT (w : World) (base xb : Nat) (xs : List Sp) (A : Option Addr) (c : Nat) : Prop where
  blk : Blk w xb #[.int .i64 0, .int .i64 0, .int .i64 0, .bool false, .slice A xs.length c, .int .i64 0] 52
  spans : w.ownsRow base 46 3 (.slice A xs.length c) xs.length (xs.flatMap spC)
  lt : xb < base
  le : base ≤ w.heap.size
def FndX (w : World) (base xb : Nat) (xs : List Sp) : Prop := ∃ A c, FndT w base xb xs A c
theorem FndT.drewN {w : World} {base xb : Nat} {xs : List Sp} {A : Option Addr} {c : Nat} (h : FndT w base xb xs A c) (n : Nat) : FndT (w.drewN n) base xb xs A c := ⟨h.blk, own_fr h.spans (Fr.drewN [] w n) (by simp), h.lt, h.le⟩
theorem FndT.fr {w w' : World} {base xb : Nat} {xs : List Sp} {A : Option Addr} {c : Nat} (h : FndT w base xb xs A c) (f : Fr [] w w') : FndT w' base xb xs A c := ⟨h.blk.fr f (by simp), own_fr h.spans f (by simp), h.lt, Nat.le_trans h.le f.size⟩
theorem FndT.alloc {w : World} {base xb : Nat} {xs : List Sp} {A : Option Addr} {c : Nat} (h : FndT w base xb xs A c) (o : Obj) : FndT (w.alloc o) base xb xs A c := h.fr (Fr.alloc [] w o)
theorem own_setOther {w : World} {base xb i sz : Nat} {T : TypeId} {v u : Value} {n : Nat} {xs : List Value} (h : w.ownsRow base T sz u n xs) (hx : xb < base) : (w.setCell ⟨xb, i, none⟩ v).ownsRow base T sz u n xs :=
  own_fr h (Fr.setCell (S := [xb]) w xb i v (by simp)) (fun b hb e => by rw [List.mem_singleton.1 hb] at e; have := (h.lt _ e).1; omega)
theorem FndT.next {w w1 : World} {base xb : Nat} {xs : List Sp} {A : Option Addr} {c : Nat} (h : FndT w base xb xs A c) (o : Obj) (hg : (w.alloc o).grownBy w1 (Value.slice A xs.length c).ownBlock) : Blk w1 xb #[.int .i64 0, .int .i64 0, .int .i64 0, .bool false, .slice A xs.length c, .int .i64 0] 52 ∧ FrB base [xb] w w1 := by
  have nk : some xb ≠ (Value.slice A xs.length c).ownBlock := fun e => by have := (h.spans.lt _ e.symm).1; have := h.lt; omega
  exact ⟨(h.blk.alloc _).grown hg nk, ((FrB.refl base [xb] w).alloc h.le o).grown hg (by have := h.le; simp; omega) (fun g e => (h.spans.lt g e).1)⟩
/-- the append of a span, stored. -/
theorem FndT.put {w w1 : World} {base xb : Nat} {xs : List Sp} {s : Sp} {A A1 : Option Addr} {c c1 : Nat} (h : FndT w base xb xs A c) {o : Obj} (hg : (w.alloc o).grownBy w1 (Value.slice A xs.length c).ownBlock) (ho : w1.ownsRow base 46 3 (.slice A1 (xs.length + 1) c1) (xs.length + 1) (xs.flatMap spC ++ spC s)) :
    FndT (w1.setCell ⟨xb, 4, none⟩ (.slice A1 (xs.length + 1) c1)) base xb (xs ++ [s]) A1 c1 ∧ FrB base [xb] w (w1.setCell ⟨xb, 4, none⟩ (.slice A1 (xs.length + 1) c1)) := by
  obtain ⟨hb1, hf1⟩ := h.next o hg
  refine ⟨⟨?_, ?_, h.lt, ?_⟩, hf1.trans (FrB.setCell _ xb 4 _ (by simp))⟩
  · rw [List.length_append]; exact hb1.set 4 _
  · rw [List.length_append, List.flatMap_append]
    have := own_setOther (i := 4) (v := .slice A1 (xs.length + 1) c1) ho h.lt
    simpa using this
  · have := hf1.size; have := h.le; simp [World.setCell]; omega
set_option maxHeartbeats 1600000 in
set_option maxRecDepth 100000 in
theorem spanPut_calls (base xb : Nat) (xs : List Sp) (A : Option Addr) (c : Nat) (s : Sp) (w : World) (h : FndT w base xb xs A c) (hk : xs.length ≤ 100000000000) :
    Calls Try.prog 76 #[.int .i64 s.lo, .int .i64 s.hi, .int .i64 s.v, .pointer (some ⟨xb, 0, none⟩)] w fun e w' => e = .returned (.tuple #[]) ∧ FndX w' base xb (xs ++ [s]) ∧ FrB base [xb] w w' := by
  obtain ⟨i0, hi0, hz0, hz1, hz2⟩ := info_parts Try.infoSpan
  have c2 : w.cell? ⟨xb, 4, none⟩ = some (.slice A xs.length c) := h.blk.cell 4
  have fz := h.blk.frozen
  have hown := h.spans
  have hle := h.le
  have HH := Lib.hid h
  clear h
  go_enter Try.func76, Try.ntmps76
  go_wp2_with (at_builtin; refine wpList_append_own _ rfl (.tmp 8) (.tmp 13) 50 rfl base 46 i0 _ 3 24 Try.underlying50 hi0 hz0 hz1 hz2 rfl (by omega) (.slice A xs.length c) xs.length _ rfl (hown.alloc _) ⟨w.heap.size, 0, none⟩ 1 1 (spC s) rfl rfl (news_blk (Blk.new w _ _)) (by simp [spC, Value.oneCell']) (by unfold maxLen; omega) (by omega) (by simp; omega) ?_; intro v' w1 hown1 hgrow _; obtain ⟨A1, c1, rfl⟩ := own_form hown1; have HP := Lib.hid (HH.out.put hgrow hown1); obtain ⟨hb1, hf1⟩ := HH.out.next _ hgrow; have d2 := hb1.cell 4; have fz1 := hb1.frozen; clear hgrow)
  go_end0
  exact ⟨rfl, ⟨_, _, HP.out.1⟩, HP.out.2⟩
theorem IT.In.frB {w w' : World} {B : Nat} {S : List Nat} (hf : FrB B S w w') : ∀ {t : IT}, t.In w → (∀ x ∈ t.ids, x < B ∧ x ∉ S) → t.In w'
  | .nil, _, _ => trivial
  | .node _ _ _ _ _ _, ⟨h1, h2, h3⟩, hn => ⟨h1.frB hf (hn _ (List.mem_cons_self ..)).1 (hn _ (List.mem_cons_self ..)).2, IT.In.frB hf h2 (fun x hx => hn x (List.mem_cons_of_mem _ (List.mem_append_left _ hx))), IT.In.frB hf h3 (fun x hx => hn x (List.mem_cons_of_mem _ (List.mem_append_right _ hx)))⟩
set_option maxRecDepth 100000 in
set_option maxHeartbeats 1000000 in
theorem each_calls (base xb : Nat) : ∀ (t : IT) (xs : List Sp) (w : World), t.In w → (∀ x ∈ t.ids, x < base ∧ x ∉ [xb]) → FndX w base xb xs → xs.length + t.ids.length ≤ 100000000000 →
    Calls Try.prog 105 #[.pointer t.ptr, .func (.func 76) #[] #[.pointer (some ⟨xb, 0, none⟩)]] w fun e w' => e = .returned (.tuple #[]) ∧ FndX w' base xb (xs ++ t.list) ∧ FrB base [xb] w w' := by
  intro t
  induction t with
  | nil =>
    intro xs w _ _ hx _
    show Calls _ _ #[.pointer none, _] _ _
    go_enter Try.func105, Try.ntmps105
    go_wp2
    refine bodyPost_ret (results_none rfl _ _ _) rfl ?_
    exact ⟨rfl, by simpa [IT.list] using hx, FrB.refl _ _ _⟩
  | node b1 s h m l r ihl ihr =>
    intro xs w hi hb hx h1
    obtain ⟨⟨p0, p1, p2, p3, p4, p5, p6⟩, pf⟩ := node_cells hi.1
    show Calls _ _ #[.pointer (some ⟨b1, 0, none⟩), _] _ _
    have e1 : xs ++ (IT.node b1 s h m l r).list = ((xs ++ l.list) ++ [s]) ++ r.list := by simp [IT.list]
    rw [e1]
    clear e1
    simp only [IT.ids, List.length_cons, List.length_append] at h1
    have kl := list_len l
    have hbl : ∀ y ∈ l.ids, y < base ∧ y ∉ [xb] := fun y hy => hb y (List.mem_cons_of_mem _ (List.mem_append_left _ hy))
    have hbr : ∀ y ∈ r.ids, y < base ∧ y ∉ [xb] := fun y hy => hb y (List.mem_cons_of_mem _ (List.mem_append_right _ hy))
    have IHL := Lib.hid (ihl xs w hi.2.1 hbl hx (by omega))
    have IHR := Lib.hid (ihr ((xs ++ l.list) ++ [s]))
    have K1 := Lib.hid (show (xs ++ l.list).length + 1 + r.ids.length ≤ 100000000000 by rw [List.length_append]; omega)
    have HI := Lib.hid hi
    have HR := Lib.hid hbr
    have HB := Lib.hid hb
    clear ihl ihr kl hi hbl hbr hb h1
    go_enter Try.func105, Try.ntmps105
    go_wp2_with fail
    refine IHL.out.mono ?_
    rintro e w1 ⟨rfl, hx1, hF1⟩
    have I1 := IT.In.frB hF1 HI.out HB.out
    clear p0 p1 p2 p3 p4 p5 p6 pf
    obtain ⟨⟨p0, p1, p2, p3, p4, p5, p6⟩, pf⟩ := node_cells I1.1
    obtain ⟨A, c, hT⟩ := hx1
    go_wp2_with fail
    go_still_tail 15, (by kernel_rfl)
    change wpList _ _ _ _ _ (w1.drewN 1)
    go_wp2_with fail
    refine (spanPut_calls base xb _ A c s _ (hT.drewN 1) (by have := K1.out; omega)).mono ?_
    rintro e w2 ⟨rfl, hx2, hF2'⟩
    have hF2 : FrB base [xb] w1 w2 := (FrB.of_below (Below.drewN w1 1)).trans hF2'
    have I2 := IT.In.frB hF2 I1 HB.out
    clear p0 p1 p2 p3 p4 p5 p6 pf
    obtain ⟨⟨p0, p1, p2, p3, p4, p5, p6⟩, pf⟩ := node_cells I2.1
    go_wp2_with fail
    refine (IHR.out w2 I2.2.2 HR.out hx2 (by have := K1.out; rw [List.length_append, List.length_singleton]; omega)).mono ?_
    rintro e w3 ⟨rfl, hx3, hF3⟩
    go_wp2
    go_end0
    exact ⟨rfl, hx3, (hF1.trans hF2).trans hF3⟩
end Go.Proofs.Ytomclflknjkhfaa
