/- impl.StackRun of a script that pushes onto the first stack, and pops from it. -/
import Derived.Test.YtinajjceojfflaaSOps
namespace Go.Proofs.Ytinajjceojfflaa
open Go.RowKit

def stepS (a : StepD) (xs : List Int) : List Int × SeenD :=
  if a.act = 0 then (xs ++ [a.key], ⟨0, false, [], []⟩) else (xs.dropLast, ⟨xs.getD (xs.length - 1) 0, false, [], []⟩)
def runS : List Int → List StepD → List Int × List SeenD
  | xs, [] => (xs, [])
  | xs, a :: l => let s := stepS a xs; let r := runS s.1 l; (r.1, s.2 :: r.2)
theorem runS_snoc (a : StepD) : ∀ (l : List StepD) (xs : List Int), runS xs (l ++ [a]) = ((stepS a (runS xs l).1).1, (runS xs l).2 ++ [(stepS a (runS xs l).1).2])
  | [], _ => rfl
  | b :: l, xs => by simp only [List.cons_append, runS, runS_snoc a l]
theorem runS_len : ∀ (l : List StepD) (xs : List Int), (runS xs l).2.length = l.length
  | [], _ => rfl
  | a :: l, xs => by simp [runS, runS_len l]
theorem stepS_len (a : StepD) (xs : List Int) : (stepS a xs).1.length ≤ xs.length + 1 := by
  unfold stepS; split <;> simp; omega
/-- a script for one stack. -/
def OneS (l : List StepD) : Prop := ∀ a ∈ l, a.on = 0 ∧ (a.act = 0 ∨ a.act = 1)
structure SRI (B sb ab : Nat) (l : List StepD) (w : World) (k : Nat) (cs : List Value) (v : Value) (wr : World) : Prop where
  outs : Outs B k (runS [] (l.take k)).2 cs v w wr
  stk : ∃ A kc, StkI wr B sb (runS [] (l.take k)).1 A kc
  all : Blk wr ab #[.pointer (some ⟨sb, 0, none⟩)] 83
  len : (runS [] (l.take k)).1.length ≤ k
theorem SRI.alloc {B sb ab : Nat} {l : List StepD} {w : World} {k : Nat} {cs : List Value} {v : Value} {wr : World} (h : SRI B sb ab l w k cs v wr) (hB : B ≤ w.heap.size) (o : Obj) : SRI B sb ab l w k cs v (wr.alloc o) := by
  obtain ⟨A, kc, hs⟩ := h.stk
  exact ⟨h.outs.alloc hB o, ⟨A, kc, hs.fr (Fr.alloc [] _ _) (by simp)⟩, h.all.alloc _, h.len⟩
theorem SRI.drewN {B sb ab : Nat} {l : List StepD} {w : World} {k : Nat} {cs : List Value} {v : Value} {wr : World} (h : SRI B sb ab l w k cs v wr) (n : Nat) : SRI B sb ab l w k cs v (wr.drewN n) := by
  obtain ⟨A, kc, hs⟩ := h.stk
  exact ⟨⟨own_fr h.outs.own (Fr.drewN [] _ n) (by simp), (show KeepsInts wr (wr.drewN n) from fun _ _ h => h).tr h.outs.tr, h.outs.below.trans (Below.drewN _ n)⟩, ⟨A, kc, hs.fr (Fr.drewN [] _ n) (by simp)⟩, h.all, h.len⟩
/-- what tells no rows holds in whatever world. -/
theorem TR.bare {w w' : World} : ∀ {ds : List SeenD} {cs : List Value}, TR w ds cs → (∀ d ∈ ds, d.keys = [] ∧ d.vals = []) → TR w' ds cs
  | [], _, ht, _ => ht
  | d :: _, _, ⟨ka, kc, va, vc, rest, e, h1, h2, h3⟩, hd => by
    obtain ⟨g1, g2⟩ := hd d (List.mem_cons_self ..)
    obtain ⟨A1, c1, e1, _⟩ := h1
    obtain ⟨A2, c2, e2, _⟩ := h2
    exact ⟨ka, kc, va, vc, rest, e, ⟨A1, c1, e1, .inl g1⟩, ⟨A2, c2, e2, .inl g2⟩, TR.bare h3 (fun d hd' => hd d (List.mem_cons_of_mem _ hd'))⟩
theorem runS_bare : ∀ (l : List StepD) (xs : List Int), ∀ d ∈ (runS xs l).2, d.ok = false ∧ d.keys = [] ∧ d.vals = []
  | [], _ => by simp [runS]
  | a :: l, xs => by
    intro d hd
    simp only [runS, List.mem_cons] at hd
    rcases hd with rfl | hd
    · unfold stepS; split <;> simp
    · exact runS_bare l _ d hd
/-- ahead of the append. -/
structure SRM (B sb ab : Nat) (l : List StepD) (w : World) (k : Nat) (cs : List Value) (v : Value) (a : StepD) (n : Int) (xb : Nat) (wr : World) : Prop where
  outs : Outs B k (runS [] (l.take k)).2 cs v w wr
  stk : ∃ A kc, StkI wr B sb (stepS a (runS [] (l.take k)).1).1 A kc
  told : (stepS a (runS [] (l.take k)).1).2 = ⟨n, false, [], []⟩
  all : Blk wr ab #[.pointer (some ⟨sb, 0, none⟩)] 83
  len : (stepS a (runS [] (l.take k)).1).1.length ≤ k + 1
  blk : Blk wr xb #[.int .i64 n, .bool false, .slice none 0 0, .slice none 0 0] 31
theorem SRM.cells {B sb ab : Nat} {l : List StepD} {w : World} {k : Nat} {cs : List Value} {v : Value} {a : StepD} {n : Int} {xb : Nat} {wr : World} (h : SRM B sb ab l w k cs v a n xb wr) :
    wr.cell? ⟨xb, 0, none⟩ = some (.int .i64 n) ∧ wr.cell? ⟨xb, 1, none⟩ = some (.bool false) ∧ wr.cell? ⟨xb, 2, none⟩ = some (.slice none 0 0) ∧ wr.cell? ⟨xb, 3, none⟩ = some (.slice none 0 0) ∧ xb < wr.heap.size := ⟨h.blk.cell 0, h.blk.cell 1, h.blk.cell 2, h.blk.cell 3, h.blk.lt⟩
theorem Outs.not_own2 {B k : Nat} {ds : List SeenD} {cs : List Value} {v : Value} {w wr : World} (h : Outs B k ds cs v w wr) {S : List Nat} (hS : ∀ b ∈ S, ∃ cb T, Blk wr b cb T ∧ T ≠ 31) : ∀ b ∈ S, v.ownBlock ≠ some b := fun b hb => by
  obtain ⟨cb, T, h1, h2⟩ := hS b hb
  exact h.not_own h1 h2
theorem stk_ty {w : World} {B sb : Nat} {xs : List Int} {A : Option Addr} {kc : Nat} (h : StkI w B sb xs A kc) : ∀ b ∈ stkS sb xs.length kc A, B ≤ b ∧ ∃ cb T, Blk w b cb T ∧ T ≠ 31 ∧ T ≠ 83 := by
  intro b hb
  unfold stkS at hb
  rcases List.mem_cons.1 hb with rfl | hb
  · exact ⟨h.ge, _, _, h.blk, by decide, by decide⟩
  · obtain ⟨cur, hc, hg⟩ := own_ty h.own (show (Value.slice A xs.length kc).ownBlock = some b by simpa using hb)
    exact ⟨hg, cur, _, hc, by decide, by decide⟩
theorem SRM.next {B sb ab : Nat} {l : List StepD} {w : World} {k : Nat} {cs : List Value} {v : Value} {a : StepD} {n : Int} {xb : Nat} {wr w2 : World} {v' : Value} {o : Obj} (h : SRM B sb ab l w k cs v a n xb wr) (ha : l[k]? = some a) (hB : B ≤ w.heap.size)
    (ho : w2.ownsRow B 31 4 v' (k + 1) (cs ++ [.int .i64 n, .bool false, .slice none 0 0, .slice none 0 0])) (hg : (wr.alloc o).grownBy w2 v.ownBlock) :
    SRI B sb ab l w (k + 1) (cs ++ [.int .i64 n, .bool false, .slice none 0 0, .slice none 0 0]) v' w2 := by
  have hkl : k < l.length := (List.getElem?_eq_some_iff.1 ha).1
  have e : l.take (k + 1) = l.take k ++ [a] := by rw [List.take_succ_eq_append_getElem hkl]; congr; exact (List.getElem?_eq_some_iff.1 ha).2
  have N := h.outs.next (d := ⟨n, false, [], []⟩) (ka := none) (va := none) (kc := 0) (vc := 0) hB (IntSl.nil _) (IntSl.nil _) ho hg
  have r := runS_snoc a (l.take k) []
  have fo := h.outs.frOwn hg
  obtain ⟨A, kc, hs⟩ := h.stk
  refine ⟨?_, ⟨A, kc, ?_⟩, h.outs.other hg h.all (by decide), ?_⟩
  · rw [e, r, h.told]; exact N
  · rw [e, r]
    refine hs.fr fo (fun b hb hm => ?_)
    obtain ⟨_, cb, T, h1, h2, _⟩ := stk_ty hs b hm
    exact h.outs.not_own h1 h2 (by simpa using hb)
  · rw [e, r]; exact h.len
theorem SRM.mk' {B sb ab : Nat} {l : List StepD} {w : World} {k : Nat} {cs : List Value} {v : Value} {a : StepD} {n : Int} {xb : Nat} {wr w2 : World} {A : Option Addr} {kc : Nat} {S : List Nat} (h : SRI B sb ab l w k cs v wr) (hB : B ≤ w.heap.size) (hs : StkI wr B sb (runS [] (l.take k)).1 A kc)
    (hf : Fr S wr w2) (hS : ∀ b ∈ S, b = xb ∨ b ∈ stkS sb (runS [] (l.take k)).1.length kc A) {cx : Array Value} (hx : Blk wr xb cx 31) (hxB : B ≤ xb) (hv0 : v.ownBlock ≠ some xb)
    (h2 : ∃ A kc, StkI w2 B sb (stepS a (runS [] (l.take k)).1).1 A kc) (e2 : (stepS a (runS [] (l.take k)).1).2 = ⟨n, false, [], []⟩) (hb : Blk w2 xb #[.int .i64 n, .bool false, .slice none 0 0, .slice none 0 0] 31) :
    SRM B sb ab l w k cs v a n xb w2 := by
  have hty := stk_ty hs
  refine ⟨⟨own_fr h.outs.own hf ?_, h.outs.tr.bare (fun d hd => (runS_bare _ _ d hd).2), h.outs.below.trans (hf.below ?_ (Nat.le_trans hB h.outs.below.size))⟩, h2, e2, h.all.fr hf ?_, ?_, hb⟩
  · intro b hb
    rcases hS b hb with rfl | hm
    · exact hv0
    · obtain ⟨_, cb, T, q1, q2, _⟩ := hty b hm
      exact h.outs.not_own q1 q2
  · intro b hb
    rcases hS b hb with rfl | hm
    · exact hxB
    · exact (hty b hm).1
  · intro hb
    rcases hS ab hb with e | hm
    · rw [← e] at hx; exact absurd (Blk.ty hx h.all) (by decide)
    · obtain ⟨_, cb, T, q1, q2, q3⟩ := hty ab hm
      exact q3 (Blk.ty q1 h.all)
  · have := stepS_len a (runS [] (l.take k)).1
    have := h.len
    omega
set_option maxRecDepth 100000 in
set_option maxHeartbeats 3200000 in
theorem stackRun_calls (lv : Value) (l : List StepD) (w : World) (hl : SlC 4 stepCell w w.heap.size lv l) (hln : l.length ≤ 7000000000) (h1 : OneS l) :
    Calls Try.prog 23 #[lv] w fun e w' => ∃ v', e = .returned v' ∧ Seens w' w.heap.size v' (runS [] l).2 ∧ Below w.heap.size w w' := by
  obtain ⟨i0, hi0, hz0, hz1, hz2⟩ := info_parts Try.infoSeen
  obtain ⟨A3, c3, rfl⟩ := hl.form
  have HL := Lib.hid hl
  have HO := Lib.hid h1
  clear hl h1
  go_enter Try.func23, Try.ntmps23
  go_wp2_with fail
  refine (stackNew_calls w w.heap.size (Nat.le_refl _)).mono ?_
  rintro e w1 ⟨rfl, hs, hb1, hsz⟩
  have HB1 := Lib.hid hb1
  have hal := Blk.new w1 #[.pointer (some ⟨w.heap.size, 0, none⟩)] 83
  rw [hsz] at hal
  have HI := Lib.hid (show SRI w.heap.size w.heap.size (w.heap.size + 1) l (w1.alloc (Obj.cells #[.pointer (some ⟨w.heap.size, 0, none⟩)] 83)) 0 [] (.slice none 0 0) (w1.alloc (Obj.cells #[.pointer (some ⟨w.heap.size, 0, none⟩)] 83)) from ⟨Outs.start _ _, ⟨none, 0, hs.fr (Fr.alloc [] _ _) (by simp)⟩, hal, Nat.le_refl _⟩)
  have HB2 := Lib.hid (hb1.alloc hb1.size (Obj.cells #[.pointer (some ⟨w.heap.size, 0, none⟩)] 83))
  have HZ := Lib.hid hsz
  clear hs hal hb1 hsz
  go_wp2_with fail
  generalize (w1.alloc (Obj.cells #[.pointer (some ⟨w.heap.size, 0, none⟩)] 83)) = w2 at *
  rw [HZ.out]
  go_loopw [3, 4, 13] (fun al v i wr => ∃ k cs, k ≤ l.length ∧ al = .slice (some ⟨w.heap.size + 1, 0, none⟩) 1 1 ∧ i = .int .i64 (k : Nat) ∧ Hid (SRI w.heap.size w.heap.size (w.heap.size + 1) l w2 k cs v wr)) (fun _ _ i _ => l.length - (intOf i).toNat)
  case atStart => exact ⟨0, [], Nat.zero_le _, rfl, rfl, HI⟩
  case round =>
    obtain ⟨k, cs, hk, rfl, rfl, HK⟩ := hrel
    by_cases hlt : k < l.length
    · obtain ⟨b, off, a, rfl, g1, g3, g4, g5, z⟩ := HL.out.at_ hlt
      obtain ⟨on, act, key, val⟩ := a
      obtain ⟨d0, dd⟩ := HO.out _ (List.mem_of_getElem? g5)
      simp only at d0 dd
      subst d0
      have hw : Below w.heap.size w wr := HB2.out.trans HK.out.outs.below
      have q0 := (hw.cell (p := ⟨b, off + k * 4, none⟩) g3).trans (z 0 _ rfl)
      have q1 := (hw.cell (p := ⟨b, off + k * 4 + 1, none⟩) g3).trans (z 1 _ rfl)
      have q2 := (hw.cell (p := ⟨b, off + k * 4 + 2, none⟩) g3).trans (z 2 _ rfl)
      have q3 := (hw.cell (p := ⟨b, off + k * 4 + 3, none⟩) g3).trans (z 3 _ rfl)
      have blt : b < wr.heap.size := Nat.lt_of_lt_of_le g4 hw.size
      have hws := HB2.out.size
      have HA := Lib.hid g5
      have HW1 := Lib.hid (HK.out.alloc hws (Obj.cells #[.int .i64 0, .int .i64 act, .int .i64 key, .int .i64 val] 28))
      have ha0 : (wr.alloc (Obj.cells #[.int .i64 0, .int .i64 act, .int .i64 key, .int .i64 val] 28)).cell? ⟨w.heap.size + 1, 0, none⟩ = some (.pointer (some ⟨w.heap.size, 0, none⟩)) := HW1.out.all.cell 0
      have hal := HW1.out.all.lt
      have HV := Lib.hid hw.size
      have hst := HK.out.stk
      have hlen := HK.out.len
      obtain ⟨A0, kc0, hst⟩ := hst
      have HST := Lib.hid hst
      clear g5 z hw hws hst
      go_wp2_with fail
      refine (mod_calls 0 1 _ (by omega) (by omega)).mono ?_
      rintro e w3 ⟨rfl, n, rfl⟩
      have ha1 : ((wr.alloc (Obj.cells #[.int .i64 0, .int .i64 act, .int .i64 key, .int .i64 val] 28)).drewN n).cell? ⟨w.heap.size + 1, 0, none⟩ = some (.pointer (some ⟨w.heap.size, 0, none⟩)) := ha0
      have em : (0 : Int) % 1 = 0 := rfl
      rw [em]
      clear em
      rcases dd with rfl | rfl
      case' inl =>
        have HW := Lib.hid ((HW1.out.drewN n).alloc HB2.out.size (Obj.cells #[.int .i64 0, .bool false, .slice none 0 0, .slice none 0 0] 31))
        have hx := Blk.new ((wr.alloc (Obj.cells #[.int .i64 0, .int .i64 0, .int .i64 key, .int .i64 val] 28)).drewN n) #[.int .i64 0, .bool false, .slice none 0 0, .slice none 0 0] 31
        rw [show ((wr.alloc (Obj.cells #[.int .i64 0, .int .i64 0, .int .i64 key, .int .i64 val] 28)).drewN n).heap.size = wr.heap.size + 1 by simp] at hx
        have HX := Lib.hid hx
        have hs2 := (HST.out.fr (((Fr.alloc [] wr (Obj.cells #[.int .i64 0, .int .i64 0, .int .i64 key, .int .i64 val] 28)).comp (Fr.drewN [] _ n)).comp (Fr.alloc [] _ (Obj.cells #[.int .i64 0, .bool false, .slice none 0 0, .slice none 0 0] 31))) (by simp))
        have HS2 := Lib.hid hs2
        clear hx hs2
        have hvx : u4.ownBlock ≠ some (wr.heap.size + 1) := fun e => by have := (HK.out.outs.own.lt _ e).2; omega
        have HVX := Lib.hid hvx
        clear hvx
        go_wp2_with fail
        generalize hW1 : ((wr.alloc (Obj.cells #[.int .i64 0, .int .i64 0, .int .i64 key, .int .i64 val] 28)).drewN n).alloc (Obj.cells #[.int .i64 0, .bool false, .slice none 0 0, .slice none 0 0] 31) = W1 at *
        refine (push_calls w.heap.size w.heap.size _ A0 kc0 key W1 HS2.out (Nat.le_trans HB2.out.size HW.out.outs.below.size) (by omega)).mono ?_
        rintro e w4 ⟨rfl, r1, r2⟩
        have hxs : wr.heap.size + 1 ∉ stkS w.heap.size (runS [] (l.take k)).1.length kc0 A0 := fun hm => by
          obtain ⟨_, cb, T, t1, t2, _⟩ := stk_ty HS2.out _ hm
          exact t2 (Blk.ty t1 HX.out)
        have HM := Lib.hid (SRM.mk' (a := ⟨0, 0, key, val⟩) (n := 0) HW.out HB2.out.size HS2.out r2 (fun b hb => .inr hb) HX.out (by have := HV.out; omega) HVX.out (by simpa [stepS] using r1) (by simp [stepS]) (HX.out.fr r2 hxs))
        clear r1 r2 hxs
        go_upto_region 19 with (fail)
        have HA' := HA
        clear HA
        have HA := HA'
        clear HA' HW HW1 HX HK HV HVX HS2 HST q0 q1 q2 q3 hW1 blt ha0 ha1 hal hlen
        obtain ⟨m0, m1, m2, m3, ml⟩ := HM.out.cells
      case' inr =>
        have HW := Lib.hid ((HW1.out.drewN n).alloc HB2.out.size (Obj.cells #[.int .i64 0, .bool false, .slice none 0 0, .slice none 0 0] 31))
        have hx := Blk.new ((wr.alloc (Obj.cells #[.int .i64 0, .int .i64 1, .int .i64 key, .int .i64 val] 28)).drewN n) #[.int .i64 0, .bool false, .slice none 0 0, .slice none 0 0] 31
        rw [show ((wr.alloc (Obj.cells #[.int .i64 0, .int .i64 1, .int .i64 key, .int .i64 val] 28)).drewN n).heap.size = wr.heap.size + 1 by simp] at hx
        have HX := Lib.hid hx
        have hs2 := (HST.out.fr (((Fr.alloc [] wr (Obj.cells #[.int .i64 0, .int .i64 1, .int .i64 key, .int .i64 val] 28)).comp (Fr.drewN [] _ n)).comp (Fr.alloc [] _ (Obj.cells #[.int .i64 0, .bool false, .slice none 0 0, .slice none 0 0] 31))) (by simp))
        have HS2 := Lib.hid hs2
        clear hx hs2
        have hvx : u4.ownBlock ≠ some (wr.heap.size + 1) := fun e => by have := (HK.out.outs.own.lt _ e).2; omega
        have HVX := Lib.hid hvx
        clear hvx
        go_wp2_with fail
        generalize hW1 : ((wr.alloc (Obj.cells #[.int .i64 0, .int .i64 1, .int .i64 key, .int .i64 val] 28)).drewN n).alloc (Obj.cells #[.int .i64 0, .bool false, .slice none 0 0, .slice none 0 0] 31) = W1 at *
        by_cases hne : (runS [] (l.take k)).1 = []
        case' pos =>
          have hs3 := HS2.out
          rw [hne] at hs3
          have HS3 := Lib.hid hs3
          clear hs3
          refine (pop_none w.heap.size w.heap.size A0 kc0 W1 HS3.out).mono ?_
          rintro e w4 ⟨rfl, ew⟩
          rw [ew]
          clear ew
          have y0 := HX.out.cell 0
          have yf := HX.out.frozen
          simp only [List.getElem?_toArray, List.getElem?_cons_zero] at y0
          have hb3 := HX.out.set 0 (.int .i64 0)
          have f3 := Fr.setCell (S := [wr.heap.size + 1]) W1 (wr.heap.size + 1) 0 (.int .i64 0) (by simp)
          have nl : wr.heap.size + 1 ∉ stkS w.heap.size (runS [] (l.take k)).1.length kc0 A0 := fun hm => by
            obtain ⟨_, cb, T, t1, t2, _⟩ := stk_ty HS2.out _ hm
            exact t2 (Blk.ty t1 HX.out)
          have HM := Lib.hid (SRM.mk' (a := ⟨0, 1, key, val⟩) (n := 0) HW.out HB2.out.size HS2.out f3 (fun b hb => .inl (List.mem_singleton.1 hb)) HX.out (by have := HV.out; omega) HVX.out ⟨A0, kc0, by rw [hne]; simpa [stepS, hne] using (HS2.out.fr f3 (fun b hb => by rw [List.mem_singleton.1 hb]; exact nl))⟩ (by simp [stepS, hne]) hb3)
          clear hb3 f3 nl hne
          go_upto_region 19 with (fail)
          generalize (W1.setCell ⟨wr.heap.size + 1, 0, none⟩ (.int .i64 0)) = w4 at *
          clear y0 yf HS3
          have HA' := HA
          clear HA
          have HA := HA'
          clear HA' HW HW1 HX HK HV HVX HS2 HST q0 q1 q2 q3 hW1 blt ha0 ha1 hal hlen
          obtain ⟨m0, m1, m2, m3, ml⟩ := HM.out.cells
        case' neg =>
          obtain ⟨X, hX⟩ : ∃ X, X = (runS [] (l.take k)).1 := ⟨_, rfl⟩
          have hpos : 0 < (runS [] (l.take k)).1.length := List.length_pos_iff.2 hne
          refine (pop_some w.heap.size w.heap.size _ A0 kc0 W1 HS2.out hpos (by omega)).mono ?_
          rintro e w5 ⟨rfl, r1, r2⟩
          have nl : wr.heap.size + 1 ∉ stkS w.heap.size (runS [] (l.take k)).1.length kc0 A0 := fun hm => by
            obtain ⟨_, cb, T, t1, t2, _⟩ := stk_ty HS2.out _ hm
            exact t2 (Blk.ty t1 HX.out)
          have nl2 : wr.heap.size + 1 ∉ stkS w.heap.size (runS [] (l.take k)).1.dropLast.length kc0 A0 := fun hm => by
            obtain ⟨_, cb, T, t1, t2, _⟩ := stk_ty r1 _ hm
            exact t2 (Blk.ty t1 (HX.out.fr r2 (fun e => nl (by rw [List.mem_singleton.1 e]; exact List.mem_cons_self ..))))
          have hx5 := HX.out.fr r2 (fun e => nl (by rw [List.mem_singleton.1 e]; exact List.mem_cons_self ..))
          have y0 := hx5.cell 0
          have yf := hx5.frozen
          simp only [List.getElem?_toArray, List.getElem?_cons_zero] at y0
          generalize hN : (runS [] (l.take k)).1.getD ((runS [] (l.take k)).1.length - 1) 0 = N at *
          have hb3 := hx5.set 0 (.int .i64 N)
          have f3 := Fr.setCell (S := [wr.heap.size + 1]) w5 (wr.heap.size + 1) 0 (.int .i64 N) (by simp)
          have HM := Lib.hid (SRM.mk' (a := ⟨0, 1, key, val⟩) (n := N) (S := [wr.heap.size + 1, w.heap.size]) HW.out HB2.out.size HS2.out ((r2.mono (fun x hx => .inl (by simp at hx; simp [hx]))).comp (f3.mono (fun x hx => .inl (by simp at hx; simp [hx])))) (fun b hb => by
            rcases List.mem_cons.1 hb with rfl | hb
            · exact .inl rfl
            · rw [List.mem_singleton.1 hb]; exact .inr (List.mem_cons_self ..)) HX.out (by have := HV.out; omega) HVX.out ⟨A0, kc0, by simpa [stepS] using (r1.fr f3 (fun b hb => by rw [List.mem_singleton.1 hb]; exact nl2))⟩ (by simp only [stepS]; rw [hN]; simp) hb3)
          clear hb3 f3 nl nl2 hne hx5 r1 r2 hX hN hpos
          go_upto_region 19 with (fail)
          generalize (w5.setCell ⟨wr.heap.size + 1, 0, none⟩ (.int .i64 N)) = w4 at *
          clear y0 yf
          have HA' := HA
          clear HA
          have HA := HA'
          clear HA' HW HW1 HX HK HV HVX HS2 HST q0 q1 q2 q3 hW1 blt ha0 ha1 hal hlen
          obtain ⟨m0, m1, m2, m3, ml⟩ := HM.out.cells
      all_goals
        go_wp2_with (at_builtin; refine wpList_append_own _ rfl (.tmp 55) (.tmp 57) 25 rfl w.heap.size 31 i0 _ 4 64 Try.underlying25 hi0 hz0 hz1 hz2 rfl (by omega) u4 k cs rfl (HM.out.outs.own.alloc _) ⟨w4.heap.size, 0, none⟩ 1 1 _ rfl rfl (news_blk (Blk.new w4 _ _)) (by simp [Value.oneCell']) (by unfold maxLen; omega) (by omega) (by have := HM.out.outs.below.size; have := HB2.out.size; simp; omega) ?_; intro v' w6 hown' hgrow _)
        exact ⟨⟨k + 1, _, by omega, rfl, by go_num, Lib.hid (HM.out.next HA.out HB2.out.size hown' hgrow)⟩, by simp [intOf]; omega⟩
    · have : k = l.length := by omega
      subst this
      go_wp2_with fail
      go_ret
      have o := HK.out.outs
      rw [List.take_length] at o
      exact ⟨u4, rfl, ⟨cs, by rw [runS_len]; exact o.own, o.tr⟩, HB2.out.trans o.below⟩
end Go.Proofs.Ytinajjceojfflaa
