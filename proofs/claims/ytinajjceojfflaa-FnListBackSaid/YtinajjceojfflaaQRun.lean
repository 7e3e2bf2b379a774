/- impl.QueueRun. -/
import Derived.Test.YtinajjceojfflaaQEach
import Derived.Deep.Cut
namespace Go.Proofs.Ytinajjceojfflaa
open Go.RowKit

def stepQ (a : StepD) (xs : List Int) : List Int × SeenD :=
  if a.act = 0 then (xs ++ [a.key], .none)
  else if a.act = 1 then (xs.drop 1, match xs with | [] => .none | x :: _ => ⟨x, true, [], []⟩)
  else if a.act = 2 then (xs, match xs with | [] => .none | x :: _ => ⟨x, true, [], []⟩)
  else if a.act = 3 then (xs, ⟨0, xs.isEmpty, [], []⟩)
  else if a.act = 4 then (xs, ⟨0, false, xs, []⟩)
  else (xs, .none)
def runQ : List Int → List StepD → List Int × List SeenD
  | xs, [] => (xs, [])
  | xs, a :: l => let s := stepQ a xs; let r := runQ s.1 l; (r.1, s.2 :: r.2)
theorem runQ_snoc (a : StepD) : ∀ (l : List StepD) (xs : List Int), runQ xs (l ++ [a]) = ((stepQ a (runQ xs l).1).1, (runQ xs l).2 ++ [(stepQ a (runQ xs l).1).2])
  | [], _ => rfl
  | b :: l, xs => by simp only [List.cons_append, runQ, runQ_snoc a l]
theorem runQ_len : ∀ (l : List StepD) (xs : List Int), (runQ xs l).2.length = l.length
  | [], _ => rfl
  | a :: l, xs => by simp [runQ, runQ_len l]
/-- at a round's head. -/
structure QRI (B qb lb : Nat) (l : List StepD) (w : World) (k : Nat) (ns : List (Nat × Int)) (cs : List Value) (v : Value) (wr : World) : Prop where
  outs : Outs B k (runQ [] (l.take k)).2 cs v w wr
  q : QI wr qb lb ns
  eq : ns.map Prod.snd = (runQ [] (l.take k)).1
  ge : ∀ i ∈ idsOf ns, B ≤ i
  len : ns.length ≤ k
theorem QRI.alloc {B qb lb : Nat} {l : List StepD} {w : World} {k : Nat} {ns : List (Nat × Int)} {cs : List Value} {v : Value} {wr : World} (h : QRI B qb lb l w k ns cs v wr) (hB : B ≤ w.heap.size) (o : Obj) : QRI B qb lb l w k ns cs v (wr.alloc o) :=
  ⟨h.outs.alloc hB o, h.q.fr (Fr.alloc [] _ _) (by simp) (by simp) (by simp), h.eq, h.ge, h.len⟩
/-- ahead of the append. -/
structure QMid (B qb lb : Nat) (l : List StepD) (w : World) (k : Nat) (ns : List (Nat × Int)) (cs : List Value) (v : Value) (a : StepD) (d : SeenD) (ka : Option Addr) (kc xb : Nat) (wr : World) : Prop where
  outs : Outs B k (runQ [] (l.take k)).2 cs v w wr
  q : QI wr qb lb ns
  eq : ns.map Prod.snd = (stepQ a (runQ [] (l.take k)).1).1
  told : (stepQ a (runQ [] (l.take k)).1).2 = d
  ge : ∀ i ∈ idsOf ns, B ≤ i
  len : ns.length ≤ k + 1
  hk : IntSl wr (.slice ka d.keys.length kc) d.keys
  hd : d.vals = []
  blk : Blk wr xb #[.int .i64 d.n, .bool d.ok, .slice ka d.keys.length kc, .slice none 0 0] 31
theorem QMid.cells {B qb lb : Nat} {l : List StepD} {w : World} {k : Nat} {ns : List (Nat × Int)} {cs : List Value} {v : Value} {a : StepD} {d : SeenD} {ka : Option Addr} {kc xb : Nat} {wr : World} (h : QMid B qb lb l w k ns cs v a d ka kc xb wr) :
    wr.cell? ⟨xb, 0, none⟩ = some (.int .i64 d.n) ∧ wr.cell? ⟨xb, 1, none⟩ = some (.bool d.ok) ∧ wr.cell? ⟨xb, 2, none⟩ = some (.slice ka d.keys.length kc) ∧ wr.cell? ⟨xb, 3, none⟩ = some (.slice none 0 0) ∧ xb < wr.heap.size := ⟨h.blk.cell 0, h.blk.cell 1, h.blk.cell 2, h.blk.cell 3, h.blk.lt⟩
theorem QMid.next {B qb lb : Nat} {l : List StepD} {w : World} {k : Nat} {ns : List (Nat × Int)} {cs : List Value} {v : Value} {a : StepD} {d : SeenD} {ka : Option Addr} {kc xb : Nat} {wr w2 : World} {v' : Value} {o : Obj} (h : QMid B qb lb l w k ns cs v a d ka kc xb wr) (ha : l[k]? = some a) (hB : B ≤ w.heap.size)
    (ho : w2.ownsRow B 31 4 v' (k + 1) (cs ++ [.int .i64 d.n, .bool d.ok, .slice ka d.keys.length kc, .slice none 0 0])) (hg : (wr.alloc o).grownBy w2 v.ownBlock) :
    QRI B qb lb l w (k + 1) ns (cs ++ [.int .i64 d.n, .bool d.ok, .slice ka d.keys.length kc, .slice none 0 0]) v' w2 := by
  have hkl : k < l.length := (List.getElem?_eq_some_iff.1 ha).1
  have e : l.take (k + 1) = l.take k ++ [a] := by rw [List.take_succ_eq_append_getElem hkl]; congr; exact (List.getElem?_eq_some_iff.1 ha).2
  have hv : IntSl wr (.slice none d.vals.length 0) d.vals := by rw [h.hd]; exact IntSl.nil _
  have ho' : w2.ownsRow B 31 4 v' (k + 1) (cs ++ [.int .i64 d.n, .bool d.ok, .slice ka d.keys.length kc, .slice none d.vals.length 0]) := by rw [h.hd]; exact ho
  have N := h.outs.next hB h.hk hv ho' hg
  have r := runQ_snoc a (l.take k) []
  have fo := h.outs.frOwn hg
  refine ⟨?_, h.q.fr fo ?_ ?_ ?_, by rw [e, r]; exact h.eq, h.ge, h.len⟩
  · rw [e, r, h.told]
    rw [h.hd] at N
    exact N
  · intro hx; exact h.outs.not_own h.q.blk (by decide) (by simpa using hx)
  · intro hx; exact h.outs.not_own h.q.dl.blk (by decide) (by simpa using hx)
  · intro x hx hy
    obtain ⟨p, hp, rfl⟩ := List.mem_map.1 hx
    obtain ⟨i, hi, rfl⟩ := List.getElem_of_mem hp
    exact h.outs.not_own (h.q.dl.nodes i _ (List.getElem?_eq_getElem hi)) (by decide) (by simpa using hy)
theorem QMid.mk' {B qb lb : Nat} {l : List StepD} {w : World} {k : Nat} {ns ns2 : List (Nat × Int)} {cs : List Value} {v : Value} {a : StepD} {d : SeenD} {ka : Option Addr} {kc xb : Nat} {wr w2 : World} {cx : Array Value} (h : QRI B qb lb l w k ns cs v wr) (hB : B ≤ w.heap.size) (hlb : B ≤ lb)
    (hx : Blk wr xb cx 31) (hxB : B ≤ xb) (hv0 : v.ownBlock ≠ some xb) {S : List Nat} (hf : Fr S wr w2) (hS : ∀ b ∈ S, b = xb ∨ b ∈ lb :: idsOf ns) (q2 : QI w2 qb lb ns2) (ge2 : ∀ i ∈ idsOf ns2, B ≤ i) (len2 : ns2.length ≤ ns.length + 1)
    (e1 : ns2.map Prod.snd = (stepQ a (ns.map Prod.snd)).1) (e2 : (stepQ a (ns.map Prod.snd)).2 = d) (hk : IntSl w2 (.slice ka d.keys.length kc) d.keys) (hd : d.vals = [])
    (hb : Blk w2 xb #[.int .i64 d.n, .bool d.ok, .slice ka d.keys.length kc, .slice none 0 0] 31) : QMid B qb lb l w k ns2 cs v a d ka kc xb w2 := by
  rw [h.eq] at e1 e2
  refine ⟨h.outs.fr hB hf fun b hb => ?_, q2, e1, e2, ge2, by have := h.len; omega, hk, hd, hb⟩
  rcases hS b hb with rfl | hb
  · exact ⟨hxB, hv0, _, _, hx, by decide⟩
  · rcases List.mem_cons.1 hb with rfl | hb
    · exact ⟨hlb, h.outs.not_own h.q.dl.blk (by decide), _, _, h.q.dl.blk, by decide⟩
    · have hge := h.ge b hb
      obtain ⟨p, hp, rfl⟩ := List.mem_map.1 hb
      obtain ⟨i, hi, rfl⟩ := List.getElem_of_mem hp
      exact ⟨hge, h.outs.not_own (h.q.dl.nodes i _ (List.getElem?_eq_getElem hi)) (by decide), _, _, h.q.dl.nodes i _ (List.getElem?_eq_getElem hi), by decide⟩
theorem or6 {a b c d e f R : Prop} (h : a ∨ b ∨ c ∨ d ∨ e ∨ f) (h1 : a → R) (h2 : b → R) (h3 : c → R) (h4 : d → R) (h5 : e → R) (h6 : f → R) : R := by
  rcases h with h | h | h | h | h | h
  · exact h1 h
  · exact h2 h
  · exact h3 h
  · exact h4 h
  · exact h5 h
  · exact h6 h
theorem QRI.lt {B qb lb : Nat} {l : List StepD} {w : World} {k : Nat} {ns : List (Nat × Int)} {cs : List Value} {v : Value} {wr : World} (h : QRI B qb lb l w k ns cs v wr) {xb : Nat} {cx : Array Value} (hx : Blk wr xb cx 31) : xb ∉ lb :: idsOf ns := by
  intro hm
  rcases List.mem_cons.1 hm with rfl | hm
  · exact absurd (Blk.ty hx h.q.dl.blk) (by decide)
  · obtain ⟨p, hp, rfl⟩ := List.mem_map.1 hm
    obtain ⟨i, hi, rfl⟩ := List.getElem_of_mem hp
    exact absurd (Blk.ty hx (h.q.dl.nodes i _ (List.getElem?_eq_getElem hi))) (by decide)
/-- pulled's own variables, laid down at its end. -/
theorem pull_done {S : List Nat} {W w3 : World} (n : Int) (b : Bool) (hf : Fr S (pullW W) w3) : Fr S W ((w3.setCell ⟨W.heap.size, 0, none⟩ (.int .i64 n)).setCell ⟨W.heap.size + 1, 0, none⟩ (.bool b)) ∧ Fr [W.heap.size, W.heap.size + 1] w3 ((w3.setCell ⟨W.heap.size, 0, none⟩ (.int .i64 n)).setCell ⟨W.heap.size + 1, 0, none⟩ (.bool b)) := by
  have fa : Fr S W (pullW W) := (Fr.alloc S W _).comp (Fr.alloc S _ _)
  have fs : Fr [W.heap.size, W.heap.size + 1] w3 ((w3.setCell ⟨W.heap.size, 0, none⟩ (.int .i64 n)).setCell ⟨W.heap.size + 1, 0, none⟩ (.bool b)) := (Fr.setCell w3 _ 0 _ (by simp)).comp (Fr.setCell _ _ 0 _ (by simp))
  exact ⟨(fa.comp hf).trans fs (fun _ h => .inl h) (fun x h => .inr (by simp at h; rcases h with rfl | rfl <;> omega)), fs⟩
theorem pull_blks (W : World) : Blk (pullW W) W.heap.size #[.int .i64 0] 3 ∧ Blk (pullW W) (W.heap.size + 1) #[.bool false] 4 := by
  refine ⟨(Blk.new W _ _).alloc _, ?_⟩
  have := Blk.new (W.alloc (.cells #[.int .i64 0] 3)) #[.bool false] 4
  rwa [show (W.alloc (.cells #[.int .i64 0] 3)).heap.size = W.heap.size + 1 by simp] at this
theorem QI.lts {w : World} {qb lb : Nat} {ns : List (Nat × Int)} (h : QI w qb lb ns) : qb < w.heap.size ∧ lb < w.heap.size ∧ ∀ i ∈ idsOf ns, i < w.heap.size := ⟨h.blk.lt, h.dl.blk.lt, h.dl.lt⟩
theorem QI.pull {w : World} {qb lb : Nat} {ns : List (Nat × Int)} (h : QI w qb lb ns) : QI (pullW w) qb lb ns := h.fr ((Fr.alloc [] w _).comp (Fr.alloc [] _ _)) (by simp) (by simp) (by simp)
theorem QI.done {W w3 : World} {qb lb : Nat} {ns : List (Nat × Int)} (h : QI w3 qb lb ns) (h1 : qb < W.heap.size) (h2 : lb < W.heap.size) (h3 : ∀ i ∈ idsOf ns, i < W.heap.size) {w4 : World} (fs : Fr [W.heap.size, W.heap.size + 1] w3 w4) : QI w4 qb lb ns :=
  h.fr fs (by simp; omega) (by simp; omega) (fun x hx => by have := h3 x hx; simp; omega)
theorem pullDeq_some (qb lb nb : Nat) (x : Int) (ns : List (Nat × Int)) (W : World) (h : QI W qb lb ((nb, x) :: ns)) :
    Calls Try.prog 37 #[.func (.func 38) #[.pointer (some ⟨qb, 0, none⟩)] #[]] W fun e w' => e = .returned (.tuple #[.int .i64 x, .bool true]) ∧ QI w' qb lb ns ∧ Fr (lb :: idsOf ns) W w' := by
  obtain ⟨l1, l2, l3⟩ := h.lts
  have l4 : ∀ i ∈ idsOf ns, i < W.heap.size := fun i hi => l3 i (List.mem_cons_of_mem _ hi)
  refine (pulled_some 38 (call_enter Try.func38 (by kernel_rfl) rfl) (.pointer (some ⟨qb, 0, none⟩)) x W (fun w' => QI w' qb lb ns ∧ Fr (lb :: idsOf ns) (pullW W) w') ?_).mono ?_
  · refine (dequeue_some qb lb nb x ns (pullW W) h.pull).mono ?_
    rintro e w' ⟨rfl, a, b⟩
    obtain ⟨p1, p2⟩ := pull_blks W
    have hn : W.heap.size ∉ lb :: idsOf ns ∧ W.heap.size + 1 ∉ lb :: idsOf ns := by
      exact ⟨fun hm => (List.mem_cons.1 hm).elim (fun e => by omega) (fun hm => by have := l4 _ hm; omega), fun hm => (List.mem_cons.1 hm).elim (fun e => by omega) (fun hm => by have := l4 _ hm; omega)⟩
    exact ⟨rfl, ⟨a, b⟩, p1.fr b hn.1, p2.fr b hn.2⟩
  · rintro e w' ⟨rfl, w3, ⟨a, b⟩, rfl⟩
    obtain ⟨f1, f2⟩ := pull_done x true b
    exact ⟨rfl, a.done l1 l2 l4 f2, f1⟩
theorem pullDeq_none (qb lb : Nat) (W : World) (h : QI W qb lb []) :
    Calls Try.prog 37 #[.func (.func 38) #[.pointer (some ⟨qb, 0, none⟩)] #[]] W fun e w' => e = .returned (.tuple #[.int .i64 0, .bool false]) ∧ QI w' qb lb [] ∧ Fr [] W w' := by
  obtain ⟨l1, l2, l3⟩ := h.lts
  refine (pulled_none 38 (call_enter Try.func38 (by kernel_rfl) rfl) (.pointer (some ⟨qb, 0, none⟩)) W (dequeue_none qb lb (pullW W) h.pull)).mono ?_
  rintro e w' ⟨rfl, w3, rfl, rfl⟩
  obtain ⟨f1, f2⟩ := pull_done 0 false (Fr.refl [] (pullW W))
  exact ⟨rfl, h.pull.done l1 l2 l3 f2, f1⟩
theorem pullPeek_some (qb lb nb : Nat) (x : Int) (ns : List (Nat × Int)) (W : World) (h : QI W qb lb ((nb, x) :: ns)) :
    Calls Try.prog 37 #[.func (.func 39) #[.pointer (some ⟨qb, 0, none⟩)] #[]] W fun e w' => e = .returned (.tuple #[.int .i64 x, .bool true]) ∧ QI w' qb lb ((nb, x) :: ns) ∧ Fr [] W w' := by
  obtain ⟨l1, l2, l3⟩ := h.lts
  refine (pulled_some 39 (call_enter Try.func39 (by kernel_rfl) rfl) (.pointer (some ⟨qb, 0, none⟩)) x W (fun w' => w' = pullW W) ?_).mono ?_
  · refine (peek_some qb lb nb x ns (pullW W) h.pull).mono ?_
    rintro e w' ⟨rfl, rfl⟩
    obtain ⟨p1, p2⟩ := pull_blks W
    exact ⟨rfl, rfl, p1, p2⟩
  · rintro e w' ⟨rfl, w3, rfl, rfl⟩
    obtain ⟨f1, f2⟩ := pull_done x true (Fr.refl [] (pullW W))
    exact ⟨rfl, h.pull.done l1 l2 l3 f2, f1⟩
theorem pullPeek_none (qb lb : Nat) (W : World) (h : QI W qb lb []) :
    Calls Try.prog 37 #[.func (.func 39) #[.pointer (some ⟨qb, 0, none⟩)] #[]] W fun e w' => e = .returned (.tuple #[.int .i64 0, .bool false]) ∧ QI w' qb lb [] ∧ Fr [] W w' := by
  obtain ⟨l1, l2, l3⟩ := h.lts
  refine (pulled_none 39 (call_enter Try.func39 (by kernel_rfl) rfl) (.pointer (some ⟨qb, 0, none⟩)) W (peek_none qb lb (pullW W) h.pull)).mono ?_
  rintro e w' ⟨rfl, w3, rfl, rfl⟩
  obtain ⟨f1, f2⟩ := pull_done 0 false (Fr.refl [] (pullW W))
  exact ⟨rfl, h.pull.done l1 l2 l3 f2, f1⟩
theorem step4 (xb : Nat) (w : World) (n n' : Int) (b b' : Bool) (kv vv : Value) (hx : Blk w xb #[.int .i64 n, .bool b, kv, vv] 31) : Blk ((w.setCell ⟨xb, 0, none⟩ (.int .i64 n')).setCell ⟨xb, 1, none⟩ (.bool b')) xb #[.int .i64 n', .bool b', kv, vv] 31 ∧ Fr [xb] w ((w.setCell ⟨xb, 0, none⟩ (.int .i64 n')).setCell ⟨xb, 1, none⟩ (.bool b')) :=
  ⟨(hx.set 0 _).set 1 _, (Fr.setCell _ _ 0 _ (by simp)).comp (Fr.setCell _ _ 1 _ (by simp))⟩
set_option maxRecDepth 100000 in
set_option maxHeartbeats 3200000 in
theorem queueRun_calls (lv : Value) (l : List StepD) (w : World) (hl : SlC 4 stepCell w w.heap.size lv l) (hln : l.length ≤ 7000000000) :
    Calls Try.prog 19 #[lv] w fun e w' => ∃ v', e = .returned v' ∧ Seens w' w.heap.size v' (runQ [] l).2 ∧ Below w.heap.size w w' := by
  obtain ⟨i0, hi0, hz0, hz1, hz2⟩ := info_parts Try.infoSeen
  obtain ⟨A3, c3, rfl⟩ := hl.form
  have HL := Lib.hid hl
  clear hl
  go_enter Try.func19, Try.ntmps19
  go_wp2_with fail
  refine (queueNew_calls w).mono ?_
  rintro e w1 ⟨qb, lb, rfl, hq, hqb, hlb, hb1⟩
  obtain ⟨B, hB⟩ : ∃ B, B = w.heap.size := ⟨_, rfl⟩
  have HB := Lib.hid hB
  have HI := Lib.hid (show QRI w.heap.size qb lb l w1 0 [] [] (.slice none 0 0) w1 from ⟨Outs.start _ _, hq, rfl, by simp [idsOf], Nat.le_refl _⟩)
  have HB1 := Lib.hid (And.intro hb1 (And.intro hqb hlb))
  clear hB hq hqb hlb hb1
  go_wp2_with fail
  go_loopw [4, 11] (fun v i wr => ∃ k ns cs, k ≤ l.length ∧ i = .int .i64 (k : Nat) ∧ Hid (QRI w.heap.size qb lb l w1 k ns cs v wr)) (fun _ i _ => l.length - (intOf i).toNat)
  case atStart => exact ⟨0, [], [], Nat.zero_le _, rfl, HI⟩
  case round =>
    obtain ⟨k, ns, cs, hk, rfl, HK⟩ := hrel
    by_cases hlt : k < l.length
    · obtain ⟨b, off, a, rfl, g1, g3, g4, g5, z⟩ := HL.out.at_ hlt
      obtain ⟨on, act, key, val⟩ := a
      have hw : Below w.heap.size w wr := HB1.out.1.trans HK.out.outs.below
      have q0 := (hw.cell (p := ⟨b, off + k * 4, none⟩) g3).trans (z 0 _ rfl)
      have q1 := (hw.cell (p := ⟨b, off + k * 4 + 1, none⟩) g3).trans (z 1 _ rfl)
      have q2 := (hw.cell (p := ⟨b, off + k * 4 + 2, none⟩) g3).trans (z 2 _ rfl)
      have q3 := (hw.cell (p := ⟨b, off + k * 4 + 3, none⟩) g3).trans (z 3 _ rfl)
      have blt : b < wr.heap.size := Nat.lt_of_lt_of_le g4 hw.size
      have hws := HB1.out.1.size
      have HA := Lib.hid g5
      have HW := Lib.hid ((HK.out.alloc HB1.out.1.size (Obj.cells #[.int .i64 on, .int .i64 act, .int .i64 key, .int .i64 val] 28)).alloc HB1.out.1.size (Obj.cells #[.int .i64 0, .bool false, .slice none 0 0, .slice none 0 0] 31))
      have HX := Lib.hid (Blk.new (wr.alloc (Obj.cells #[.int .i64 on, .int .i64 act, .int .i64 key, .int .i64 val] 28)) #[.int .i64 0, .bool false, .slice none 0 0, .slice none 0 0] 31)
      have hsz : (wr.alloc (Obj.cells #[.int .i64 on, .int .i64 act, .int .i64 key, .int .i64 val] 28)).heap.size = wr.heap.size + 1 := by simp
      rw [hsz] at HX
      have HV := Lib.hid (show u4.ownBlock ≠ some (wr.heap.size + 1) ∧ w.heap.size ≤ wr.heap.size + 1 from ⟨fun e => by have := (HK.out.outs.own.lt _ e).2; omega, by have := hw.size; omega⟩)
      clear g5 z hw hws hsz
      have dd : act = 0 ∨ act = 1 ∨ act = 2 ∨ act = 3 ∨ act = 4 ∨ ((act == 0) = false ∧ (act == 1) = false ∧ (act == 2) = false ∧ (act == 3) = false ∧ (act == 4) = false) := by
        simp only [beq_eq_false_iff_ne]; omega
      refine or6 dd ?k0 ?k1 ?k2 ?k3 ?k4 ?k5 <;> (clear dd; intro dd)
      case' k0 =>
        subst dd
        go_wp2_with fail
        generalize hW1 : (wr.alloc (Obj.cells #[.int .i64 on, .int .i64 0, .int .i64 key, .int .i64 val] 28)).alloc (Obj.cells #[.int .i64 0, .bool false, .slice none 0 0, .slice none 0 0] 31) = W1 at *
        have h := HW.out
        refine (enqueue_calls qb lb key ns W1 h.q).mono ?_
        rintro e w2 ⟨rfl, r1, r2⟩
        have hB1 := HB1.out.1.size
        have HM := Lib.hid (QMid.mk' (a := ⟨on, 0, key, val⟩) (d := .none) (ka := none) (kc := 0) h hB1 HB1.out.2.2 HX.out HV.out.2 HV.out.1 r2 (fun b hb => .inr hb) r1
          (fun i hi => by
            simp only [idsOf, List.map_append, List.map_cons, List.map_nil, List.mem_append, List.mem_singleton] at hi
            rcases hi with hi | rfl
            · exact h.ge i hi
            · exact Nat.le_trans hB1 h.outs.below.size)
          (by simp) (by simp [stepQ]) rfl (IntSl.nil _) rfl (HX.out.fr r2 (h.lt HX.out)))
        clear r1 r2 hB1
        go_upto_region 18 with (fail)
        have HA' := HA
        clear h HA
        have HA := HA'
        clear HA' HW HX HK HV q0 q1 q2 q3 hW1 blt
        obtain ⟨m0, m1, m2, m3, ml⟩ := HM.out.cells
      case' k1 =>
        subst dd
        rcases ns with _ | ⟨⟨nb, x⟩, ns⟩
        case' nil =>
          go_wp2_with fail
          generalize hW1 : (wr.alloc (Obj.cells #[.int .i64 on, .int .i64 1, .int .i64 key, .int .i64 val] 28)).alloc (Obj.cells #[.int .i64 0, .bool false, .slice none 0 0, .slice none 0 0] 31) = W1 at *
          have h := HW.out
          refine (pullDeq_none qb lb W1 h.q).mono ?_
          rintro e w5 ⟨rfl, r1, r2⟩
          have hx2 := HX.out.fr r2 (by simp)
          have y0 := hx2.cell 0
          have y1 := hx2.cell 1
          have yf := hx2.frozen
          simp only [List.getElem?_toArray, List.getElem?_cons_succ, List.getElem?_cons_zero] at y0 y1
          obtain ⟨hx3, f3⟩ := step4 _ w5 0 0 false false _ _ hx2
          have nl := h.lt HX.out
          have HM := Lib.hid (QMid.mk' (a := ⟨on, 1, key, val⟩) (d := .none) (ka := none) (kc := 0) h HB1.out.1.size HB1.out.2.2 HX.out HV.out.2 HV.out.1 ((r2.mono (by simp)).comp f3) (fun b hb => .inl (List.mem_singleton.1 hb)) (r1.fr f3 (by rw [List.mem_singleton]; intro e; rw [e] at r1; exact absurd (Blk.ty r1.blk hx2) (by decide)) (by rw [List.mem_singleton]; exact fun e => nl (by rw [e]; simp)) (by simp [idsOf])) h.ge (by simp) (by simp [stepQ]) (by simp [stepQ]) (IntSl.nil _) rfl hx3)
          clear r1 r2 hx2 hx3 f3 nl
          go_upto_region 18 with (fail)
          generalize ((w5.setCell ⟨wr.heap.size + 1, 0, none⟩ (.int .i64 0)).setCell ⟨wr.heap.size + 1, 1, none⟩ (.bool false)) = w2 at *
          clear y0 y1 yf
          have HA' := HA
          clear h HA
          have HA := HA'
          clear HA' HW HX HK HV q0 q1 q2 q3 hW1 blt
          obtain ⟨m0, m1, m2, m3, ml⟩ := HM.out.cells
        case' cons =>
          go_wp2_with fail
          generalize hW1 : (wr.alloc (Obj.cells #[.int .i64 on, .int .i64 1, .int .i64 key, .int .i64 val] 28)).alloc (Obj.cells #[.int .i64 0, .bool false, .slice none 0 0, .slice none 0 0] 31) = W1 at *
          have h := HW.out
          refine (pullDeq_some qb lb nb x ns W1 h.q).mono ?_
          rintro e w5 ⟨rfl, r1, r2⟩
          have nl := h.lt HX.out
          have hx2 := HX.out.fr r2 (fun hm => nl ((List.mem_cons.1 hm).elim (fun e => by rw [e]; simp) (fun hm => List.mem_cons_of_mem _ (List.mem_cons_of_mem _ hm))))
          have y0 := hx2.cell 0
          have y1 := hx2.cell 1
          have yf := hx2.frozen
          simp only [List.getElem?_toArray, List.getElem?_cons_succ, List.getElem?_cons_zero] at y0 y1
          obtain ⟨hx3, f3⟩ := step4 _ w5 0 x false true _ _ hx2
          have HM := Lib.hid (QMid.mk' (a := ⟨on, 1, key, val⟩) (d := ⟨x, true, [], []⟩) (ka := none) (kc := 0) h HB1.out.1.size HB1.out.2.2 HX.out HV.out.2 HV.out.1 (r2.trans f3 (S := (wr.heap.size + 1) :: lb :: idsOf ns) (fun _ h => .inl (List.mem_cons_of_mem _ h)) (fun _ h => .inl (by simp at h; simp [h]))) (fun b hb => (List.mem_cons.1 hb).imp id (fun hb => (List.mem_cons.1 hb).elim (fun e => by rw [e]; simp) (fun hm => List.mem_cons_of_mem _ (List.mem_cons_of_mem _ hm))))
            (r1.fr f3 (by rw [List.mem_singleton]; intro e; rw [e] at r1; exact absurd (Blk.ty r1.blk hx2) (by decide)) (by rw [List.mem_singleton]; exact fun e => nl (by rw [e]; simp)) (fun i hi => by rw [List.mem_singleton]; exact fun e => nl (by rw [← e]; exact List.mem_cons_of_mem _ (List.mem_cons_of_mem _ hi))))
            (fun i hi => h.ge i (List.mem_cons_of_mem _ hi)) (by simp; try omega) (by simp [stepQ]) (by simp [stepQ]) (IntSl.nil _) rfl hx3)
          clear r1 r2 hx2 hx3 f3 nl
          go_upto_region 18 with (fail)
          generalize ((w5.setCell ⟨wr.heap.size + 1, 0, none⟩ (.int .i64 x)).setCell ⟨wr.heap.size + 1, 1, none⟩ (.bool true)) = w2 at *
          clear y0 y1 yf
          have HA' := HA
          clear h HA
          have HA := HA'
          clear HA' HW HX HK HV q0 q1 q2 q3 hW1 blt
          obtain ⟨m0, m1, m2, m3, ml⟩ := HM.out.cells
      case' k2 =>
        subst dd
        rcases ns with _ | ⟨⟨nb, x⟩, ns⟩
        case' nil =>
          go_wp2_with fail
          generalize hW1 : (wr.alloc (Obj.cells #[.int .i64 on, .int .i64 2, .int .i64 key, .int .i64 val] 28)).alloc (Obj.cells #[.int .i64 0, .bool false, .slice none 0 0, .slice none 0 0] 31) = W1 at *
          have h := HW.out
          refine (pullPeek_none qb lb W1 h.q).mono ?_
          rintro e w5 ⟨rfl, r1, r2⟩
          have hx2 := HX.out.fr r2 (by simp)
          have y0 := hx2.cell 0
          have y1 := hx2.cell 1
          have yf := hx2.frozen
          simp only [List.getElem?_toArray, List.getElem?_cons_succ, List.getElem?_cons_zero] at y0 y1
          obtain ⟨hx3, f3⟩ := step4 _ w5 0 0 false false _ _ hx2
          have nl := h.lt HX.out
          have HM := Lib.hid (QMid.mk' (a := ⟨on, 2, key, val⟩) (d := .none) (ka := none) (kc := 0) h HB1.out.1.size HB1.out.2.2 HX.out HV.out.2 HV.out.1 ((r2.mono (by simp)).comp f3) (fun b hb => .inl (List.mem_singleton.1 hb)) (r1.fr f3 (by rw [List.mem_singleton]; intro e; rw [e] at r1; exact absurd (Blk.ty r1.blk hx2) (by decide)) (by rw [List.mem_singleton]; exact fun e => nl (by rw [e]; simp)) (by simp [idsOf])) h.ge (by simp) (by simp [stepQ]) (by simp [stepQ]) (IntSl.nil _) rfl hx3)
          clear r1 r2 hx2 hx3 f3 nl
          go_upto_region 18 with (fail)
          generalize ((w5.setCell ⟨wr.heap.size + 1, 0, none⟩ (.int .i64 0)).setCell ⟨wr.heap.size + 1, 1, none⟩ (.bool false)) = w2 at *
          clear y0 y1 yf
          have HA' := HA
          clear h HA
          have HA := HA'
          clear HA' HW HX HK HV q0 q1 q2 q3 hW1 blt
          obtain ⟨m0, m1, m2, m3, ml⟩ := HM.out.cells
        case' cons =>
          go_wp2_with fail
          generalize hW1 : (wr.alloc (Obj.cells #[.int .i64 on, .int .i64 2, .int .i64 key, .int .i64 val] 28)).alloc (Obj.cells #[.int .i64 0, .bool false, .slice none 0 0, .slice none 0 0] 31) = W1 at *
          have h := HW.out
          refine (pullPeek_some qb lb nb x ns W1 h.q).mono ?_
          rintro e w5 ⟨rfl, r1, r2⟩
          have nl := h.lt HX.out
          have hx2 := HX.out.fr r2 (by simp)
          have y0 := hx2.cell 0
          have y1 := hx2.cell 1
          have yf := hx2.frozen
          simp only [List.getElem?_toArray, List.getElem?_cons_succ, List.getElem?_cons_zero] at y0 y1
          obtain ⟨hx3, f3⟩ := step4 _ w5 0 x false true _ _ hx2
          have HM := Lib.hid (QMid.mk' (a := ⟨on, 2, key, val⟩) (d := ⟨x, true, [], []⟩) (ka := none) (kc := 0) h HB1.out.1.size HB1.out.2.2 HX.out HV.out.2 HV.out.1 (r2.trans f3 (S := (wr.heap.size + 1) :: lb :: idsOf ns) (by simp) (fun _ h => .inl (by simp at h; simp [h]))) (fun b hb => (List.mem_cons.1 hb).imp id (fun hb => (List.mem_cons.1 hb).elim (fun e => by rw [e]; simp) (fun hm => List.mem_cons_of_mem _ (List.mem_cons_of_mem _ hm))))
            (r1.fr f3 (by rw [List.mem_singleton]; intro e; rw [e] at r1; exact absurd (Blk.ty r1.blk hx2) (by decide)) (by rw [List.mem_singleton]; exact fun e => nl (by rw [e]; simp)) (fun i hi => by rw [List.mem_singleton]; exact fun e => nl (by rw [← e]; exact List.mem_cons_of_mem _ hi)))
            h.ge (by simp; try omega) (by simp [stepQ]) (by simp [stepQ]) (IntSl.nil _) rfl hx3)
          clear r1 r2 hx2 hx3 f3 nl
          go_upto_region 18 with (fail)
          generalize ((w5.setCell ⟨wr.heap.size + 1, 0, none⟩ (.int .i64 x)).setCell ⟨wr.heap.size + 1, 1, none⟩ (.bool true)) = w2 at *
          clear y0 y1 yf
          have HA' := HA
          clear h HA
          have HA := HA'
          clear HA' HW HX HK HV q0 q1 q2 q3 hW1 blt
          obtain ⟨m0, m1, m2, m3, ml⟩ := HM.out.cells
      case' k3 =>
        subst dd
        go_wp2_with fail
        generalize hW1 : (wr.alloc (Obj.cells #[.int .i64 on, .int .i64 3, .int .i64 key, .int .i64 val] 28)).alloc (Obj.cells #[.int .i64 0, .bool false, .slice none 0 0, .slice none 0 0] 31) = W1 at *
        have h := HW.out
        refine (empty_calls qb lb ns W1 h.q).mono ?_
        rintro e w5 ⟨rfl, ew⟩
        rw [ew]
        clear ew
        have nl := h.lt HX.out
        have hx2 := HX.out
        have y1 := hx2.cell 1
        have yf := hx2.frozen
        simp only [List.getElem?_toArray, List.getElem?_cons_succ, List.getElem?_cons_zero] at y1
        have hx3 := hx2.set 1 (.bool ns.isEmpty)
        have f3 := Fr.setCell (S := [wr.heap.size + 1]) W1 (wr.heap.size + 1) 1 (.bool ns.isEmpty) (by simp)
        have HM := Lib.hid (QMid.mk' (a := ⟨on, 3, key, val⟩) (d := ⟨0, ns.isEmpty, [], []⟩) (ka := none) (kc := 0) h HB1.out.1.size HB1.out.2.2 HX.out HV.out.2 HV.out.1 f3 (fun b hb => .inl (List.mem_singleton.1 hb))
          (h.q.fr f3 (by rw [List.mem_singleton]; intro e; have hb := h.q.blk; rw [e] at hb; exact absurd (Blk.ty hb hx2) (by decide)) (by rw [List.mem_singleton]; exact fun e => nl (by rw [e]; simp)) (fun i hi => by rw [List.mem_singleton]; exact fun e => nl (by rw [← e]; exact List.mem_cons_of_mem _ hi)))
          h.ge (by omega) (by simp [stepQ]) (by simp [stepQ]) (IntSl.nil _) rfl hx3)
        clear hx2 hx3 f3 nl
        go_upto_region 18 with (fail)
        generalize (W1.setCell ⟨wr.heap.size + 1, 1, none⟩ (.bool ns.isEmpty)) = w2 at *
        clear y1 yf
        have HA' := HA
        clear h HA
        have HA := HA'
        clear HA' HW HX HK HV q0 q1 q2 q3 hW1 blt
        obtain ⟨m0, m1, m2, m3, ml⟩ := HM.out.cells
      case' k4 =>
        subst dd
        go_wp2_with fail
        generalize hW1 : (wr.alloc (Obj.cells #[.int .i64 on, .int .i64 4, .int .i64 key, .int .i64 val] 28)).alloc (Obj.cells #[.int .i64 0, .bool false, .slice none 0 0, .slice none 0 0] 31) = W1 at *
        have h := HW.out
        have tx : SeenX W1 W1.heap.size (wr.heap.size + 1) 0 false [] := ⟨none, 0, HX.out, World.ownsRow_nil _ _ _ _, HX.out.lt, Nat.le_refl _⟩
        refine (queueEach_calls W1.heap.size (wr.heap.size + 1) qb lb 0 false ns [] W1 h.q tx h.q.dl.lt (by have := h.len; simp; omega)).mono ?_
        rintro e w2 ⟨rfl, ⟨ka, kc, r1⟩, r2⟩
        have nl := h.lt HX.out
        have f3 : Fr [wr.heap.size + 1] W1 w2 := ⟨r2.os, r2.tape, r2.output, r2.size, r2.block⟩
        have HM := Lib.hid (QMid.mk' (a := ⟨on, 4, key, val⟩) (d := ⟨0, false, ns.map Prod.snd, []⟩) h HB1.out.1.size HB1.out.2.2 HX.out HV.out.2 HV.out.1 f3 (fun b hb => .inl (List.mem_singleton.1 hb))
          (h.q.fr f3 (by rw [List.mem_singleton]; intro e; have hb := h.q.blk; rw [e] at hb; exact absurd (Blk.ty hb HX.out) (by decide)) (by rw [List.mem_singleton]; exact fun e => nl (by rw [e]; simp)) (fun i hi => by rw [List.mem_singleton]; exact fun e => nl (by rw [← e]; exact List.mem_cons_of_mem _ hi)))
          h.ge (by omega) (by simp [stepQ]) (by simp [stepQ]) (own_IntSl r1.keys) rfl r1.blk)
        clear r1 r2 f3 nl tx
        generalize ns.map Prod.snd = ks at HM
        go_upto_region 18 with (fail)
        have HA' := HA
        clear h HA
        have HA := HA'
        clear HA' HW HX HK HV q0 q1 q2 q3 hW1 blt
        obtain ⟨m0, m1, m2, m3, ml⟩ := HM.out.cells
      case' k5 =>
        obtain ⟨e0, e1, e2, e3, e4⟩ := dd
        go_upto_region 18 with (fail)
        have h := HW.out
        have HM := Lib.hid (QMid.mk' (a := ⟨on, act, key, val⟩) (d := .none) (ka := none) (kc := 0) h HB1.out.1.size HB1.out.2.2 HX.out HV.out.2 HV.out.1 (Fr.refl [] _) (by simp) h.q h.ge (by omega) (by unfold stepQ; simp_all) (by unfold stepQ; simp_all) (IntSl.nil _) rfl HX.out)
        clear e0 e1 e2 e3 e4
        generalize hW1 : (wr.alloc (Obj.cells #[.int .i64 on, .int .i64 act, .int .i64 key, .int .i64 val] 28)).alloc (Obj.cells #[.int .i64 0, .bool false, .slice none 0 0, .slice none 0 0] 31) = w2 at *
        have HA' := HA
        clear h HA
        have HA := HA'
        clear HA' HW HX HK HV q0 q1 q2 q3 hW1 blt
        obtain ⟨m0, m1, m2, m3, ml⟩ := HM.out.cells
      all_goals
        go_wp2_with (at_builtin; refine wpList_append_own _ rfl (.tmp 53) (.tmp 55) 25 rfl w.heap.size 31 i0 _ 4 64 Try.underlying25 hi0 hz0 hz1 hz2 rfl (by omega) u4 k cs rfl (HM.out.outs.own.alloc _) ⟨w2.heap.size, 0, none⟩ 1 1 _ rfl rfl (news_blk (Blk.new w2 _ _)) (by simp [Value.oneCell']) (by unfold maxLen; omega) (by omega) (by have := HM.out.outs.below.size; have := HB1.out.1.size; simp; omega) ?_; intro v' w3 hown' hgrow _)
        exact ⟨⟨k + 1, _, _, by omega, by go_num, Lib.hid (HM.out.next HA.out HB1.out.1.size hown' hgrow)⟩, by simp [intOf]; omega⟩
    · have : k = l.length := by omega
      subst this
      go_wp2_with fail
      go_ret
      have h := HK.out
      have o := h.outs
      rw [List.take_length] at o
      exact ⟨u4, rfl, ⟨cs, by rw [runQ_len]; exact o.own, o.tr⟩, HB1.out.1.trans o.below⟩
end Go.Proofs.Ytinajjceojfflaa
