/- impl.ListRun. -/
import Derived.Test.YtinajjceojfflaaLB5
namespace Go.Proofs.Ytinajjceojfflaa
open Go.RowKit

/-- the list behind a script. -/
def stL (l : List StepD) : LineD := l.foldl doL ⟨[], []⟩
/-- a script in which each step may be done. -/
def OkL (l : List StepD) : Prop := ∀ (k : Nat) (a : StepD), l[k]? = some a → mayL (stL (l.take k)) a
theorem stL_snoc (l : List StepD) (a : StepD) : stL (l ++ [a]) = doL (stL l) a := by unfold stL; rw [List.foldl_append]; rfl
/-- what is told of it. -/
def TellL (l : List StepD) (ds : List SeenD) : Prop := ds.length = l.length ∧ ∀ (k : Nat) (a : StepD) (d : SeenD), l[k]? = some a → ds[k]? = some d → keysL (stL (l.take k)) a d.keys
theorem TellL.snoc {l : List StepD} {ds : List SeenD} {a : StepD} {d : SeenD} (h : TellL l ds) (hk : keysL (stL l) a d.keys) : TellL (l ++ [a]) (ds ++ [d]) := by
  refine ⟨by simp [h.1], fun k b e hb he => ?_⟩
  rcases Nat.lt_or_ge k l.length with hl | hl
  · rw [List.getElem?_append_left hl] at hb
    rw [List.getElem?_append_left (by rw [h.1]; exact hl)] at he
    rw [List.take_append_of_le_length (by omega)]
    exact h.2 k b e hb he
  · have hkl := (List.getElem?_eq_some_iff.1 hb).1
    simp at hkl
    have : k = l.length := by omega
    subst this
    rw [List.getElem?_append_right (Nat.le_refl _), Nat.sub_self] at hb
    rw [← h.1, List.getElem?_append_right (Nat.le_refl _), Nat.sub_self] at he
    simp at hb he
    subst hb he
    rw [List.take_append_of_le_length (Nat.le_refl _), List.take_length]
    exact hk
theorem doL_len (s : LineD) (a : StepD) : (doL s a).vals.length ≤ s.vals.length + 1 ∧ (doL s a).row.length ≤ s.row.length + 1 := by
  unfold doL cutAt
  repeat' split
  all_goals simp
  all_goals omega
theorem stL_len (l : List StepD) : (stL l).vals.length ≤ l.length ∧ (stL l).row.length ≤ l.length := by
  unfold stL
  suffices h : ∀ (l : List StepD) (s : LineD), (l.foldl doL s).vals.length ≤ s.vals.length + l.length ∧ (l.foldl doL s).row.length ≤ s.row.length + l.length by simpa using h l ⟨[], []⟩
  intro l
  induction l with
  | nil => intro s; simp
  | cons a l ih =>
    intro s
    have h1 := ih (doL s a)
    have h2 := doL_len s a
    simp only [List.foldl_cons, List.length_cons]
    omega
theorem listNew_calls (w : World) : Calls Try.prog 46 #[] w fun e w' => e = .returned (.pointer (some ⟨w.heap.size, 0, none⟩)) ∧ w' = w.alloc (Obj.cells #[.pointer none, .pointer none] 109) := by
  go_enter Try.func46, Try.ntmps46
  go_wp2
  go_ret
  exact ⟨rfl, rfl⟩
theorem ring_start (w : World) : RingI w.heap.size ((w.alloc (Obj.cells #[.pointer none, .pointer none] 109)).alloc (Obj.cells #[.pointer (some ⟨w.heap.size, 0, none⟩), .slice none 0 0] 81)) (w.heap.size + 1) w.heap.size [] [] (.slice none 0 0) [] := by
  have e1 : (w.alloc (Obj.cells #[.pointer none, .pointer none] 109)).heap.size = w.heap.size + 1 := by simp
  have hb := Blk.new (w.alloc (Obj.cells #[.pointer none, .pointer none] 109)) #[.pointer (some ⟨w.heap.size, 0, none⟩), .slice none 0 0] 81
  rw [e1] at hb
  exact ⟨hb, World.ownsRow_nil _ _ _ _, ⟨(Blk.new w _ _).alloc _, fun i p hi => by simp at hi, by simp⟩, fun i p hi => by simp at hi, by simp, by omega, Nat.le_refl _, by simp, by simp⟩
/-- at a round's head. -/
structure LRI (B rb lb : Nat) (l : List StepD) (w : World) (k : Nat) (ids : List (Nat × Int)) (row : List Nat) (nv : Value) (ds : List SeenD) (cs : List Value) (v : Value) (wr : World) : Prop where
  outs : Outs B k ds cs v w wr
  ring : RingI B wr rb lb ids row nv ids
  st : ⟨ids.map Prod.snd, row⟩ = stL (l.take k)
  tell : TellL (l.take k) ds
/-- a step has been done, and told. -/
theorem LRI.next {B rb lb : Nat} {l : List StepD} {w : World} {k : Nat} {ids : List (Nat × Int)} {row : List Nat} {nv : Value} {ds : List SeenD} {cs : List Value} {v v' : Value} {wr w2 w3 : World} {a : StepD} {ks : List Int} {ka : Option Addr} {kc : Nat} {o : Obj} {ids' : List (Nat × Int)} {row' : List Nat} {nv' : Value}
    (h : Outs B k ds cs v w wr) (hst : ⟨ids.map Prod.snd, row⟩ = stL (l.take k)) (ht : TellL (l.take k) ds) (ha : l[k]? = some a) (hB : B ≤ w.heap.size) (hR : RingI B wr rb lb ids row nv ids)
    (h1 : RingI B w2 rb lb ids' row' nv' ids') (hd : ⟨ids'.map Prod.snd, row'⟩ = doL ⟨ids.map Prod.snd, row⟩ a) (hk : keysL ⟨ids.map Prod.snd, row⟩ a ks) (hs : IntSl w2 (.slice ka ks.length kc) ks) (hf : Fr (ringS rb lb ids nv) wr w2)
    (ho : w3.ownsRow B 31 4 v' (k + 1) (cs ++ [.int .i64 0, .bool false, .slice ka ks.length kc, .slice none 0 0])) (hg : (w2.alloc o).grownBy w3 v.ownBlock) :
    LRI B rb lb l w (k + 1) ids' row' nv' (ds ++ [⟨0, false, ks, []⟩]) (cs ++ [.int .i64 0, .bool false, .slice ka ks.length kc, .slice none 0 0]) v' w3 := by
  have hkl : k < l.length := (List.getElem?_eq_some_iff.1 ha).1
  have e : l.take (k + 1) = l.take k ++ [a] := by rw [List.take_succ_eq_append_getElem hkl]; congr; exact (List.getElem?_eq_some_iff.1 ha).2
  have O2 : Outs B k ds cs v w w2 := h.fr hB hf (fun b hb => by
    obtain ⟨g1, _, cb, T, g2, g3, g4⟩ := hR.ty b hb
    exact ⟨g1, h.not_own g2 g3, _, _, g2, g4⟩)
  refine ⟨?_, h1.fr (O2.frOwn hg) (fun b hb hm => ?_), by rw [hd, e, stL_snoc, hst], by rw [e]; exact ht.snoc (by rw [← hst]; exact hk)⟩
  · exact O2.next (d := ⟨0, false, ks, []⟩) (va := none) (vc := 0) hB hs (IntSl.nil _) ho hg
  · obtain ⟨_, _, cb, T, g2, g3, _⟩ := h1.ty b hm
    exact O2.not_own g2 g3 (by simpa using hb)
set_option maxRecDepth 100000 in
set_option maxHeartbeats 3200000 in
theorem listRun_calls (lv : Value) (l : List StepD) (w : World) (hl : SlC 4 stepCell w w.heap.size lv l) (hln : l.length ≤ 7000000000) (ok : OkL l) :
    Calls Try.prog 22 #[lv] w fun e w' => ∃ v' ds, e = .returned v' ∧ Seens w' w.heap.size v' ds ∧ TellL l ds ∧ Below w.heap.size w w' := by
  obtain ⟨i0, hi0, hz0, hz1, hz2⟩ := info_parts Try.infoSeen
  obtain ⟨A3, c3, rfl⟩ := hl.form
  have HL := Lib.hid hl
  have HO := Lib.hid ok
  have HS := Lib.hid (ring_start w)
  have HB := Lib.hid (((Below.refl w.heap.size w).alloc (Nat.le_refl _) (Obj.cells #[.pointer none, .pointer none] 109)).alloc (by simp) (Obj.cells #[.pointer (some ⟨w.heap.size, 0, none⟩), .slice none 0 0] 81))
  clear hl ok
  go_enter Try.func22, Try.ntmps22
  go_wp2_with fail
  refine (listNew_calls w).mono ?_
  rintro e w1 ⟨rfl, rfl⟩
  go_wp2_with fail
  generalize ((w.alloc (Obj.cells #[.pointer none, .pointer none] 109)).alloc (Obj.cells #[.pointer (some ⟨w.heap.size, 0, none⟩), .slice none 0 0] 81)) = w1 at *
  have HI := Lib.hid (show LRI w.heap.size (w.heap.size + 1) w.heap.size l w1 0 [] [] (.slice none 0 0) [] [] (.slice none 0 0) w1 from ⟨Outs.start _ _, HS.out, rfl, ⟨rfl, fun k a d hb => by simp at hb⟩⟩)
  go_loopw [4, 12] (fun v i wr => ∃ k ids row nv ds cs, k ≤ l.length ∧ i = .int .i64 (k : Nat) ∧ Hid (LRI w.heap.size (w.heap.size + 1) w.heap.size l w1 k ids row nv ds cs v wr)) (fun _ i _ => l.length - (intOf i).toNat)
  case atStart => exact ⟨0, [], [], _, [], [], Nat.zero_le _, rfl, HI⟩
  case round =>
    obtain ⟨k, ids, row, nv, ds, cs, hk, rfl, HK⟩ := hrel
    by_cases hlt : k < l.length
    · obtain ⟨b, off, a, rfl, g1, g3, g4, g5, z⟩ := HL.out.at_ hlt
      obtain ⟨on, act, key, val⟩ := a
      have hw : Below w.heap.size w wr := HB.out.trans HK.out.outs.below
      have q0 := (hw.cell (p := ⟨b, off + k * 4, none⟩) g3).trans (z 0 _ rfl)
      have q1 := (hw.cell (p := ⟨b, off + k * 4 + 1, none⟩) g3).trans (z 1 _ rfl)
      have q2 := (hw.cell (p := ⟨b, off + k * 4 + 2, none⟩) g3).trans (z 2 _ rfl)
      have q3 := (hw.cell (p := ⟨b, off + k * 4 + 3, none⟩) g3).trans (z 3 _ rfl)
      have blt : b < wr.heap.size := Nat.lt_of_lt_of_le g4 hw.size
      have hws := HB.out.size
      have hwr := hw.size
      have HA := Lib.hid g5
      have HOA := Lib.hid (HK.out.outs.alloc hws (Obj.cells #[.int .i64 on, .int .i64 act, .int .i64 key, .int .i64 val] 28))
      have hra := HK.out.ring.alloc (Obj.cells #[.int .i64 on, .int .i64 act, .int .i64 key, .int .i64 val] 28)
      have hlen := stL_len (l.take k)
      rw [← HK.out.st, List.length_map, List.length_take] at hlen
      have HD := Lib.hid (do_calls on act key val (wr.alloc (Obj.cells #[.int .i64 on, .int .i64 act, .int .i64 key, .int .i64 val] 28)) hra (by simp; omega) (by omega) (by simp only at hlen; omega) (by rw [HK.out.st]; exact HO.out k _ g5))
      have HRA := Lib.hid hra
      clear g5 z hw hra hlen
      go_wp2_with fail
      refine HD.out.mono ?_
      rintro e w2 ⟨ids', row', nv', ks, ka, kc, rfl, r1, r2, r3, r4, r5⟩
      have HR := Lib.hid (And.intro r1 (And.intro r2 (And.intro r3 (And.intro r4 r5))))
      have hO2 : Outs w.heap.size k ds cs u4 w1 w2 := HOA.out.fr hws r5 (fun b hb => by
        obtain ⟨g1, _, cb, T, g2, g3, g4⟩ := HRA.out.ty b hb
        exact ⟨g1, HOA.out.not_own g2 g3, _, _, g2, g4⟩)
      have hown := hO2.own
      have hsz2 := hO2.below.size
      clear r1 r2 r3 r4 r5 hO2 q0 q1 q2 q3 blt
      go_wp2_with (at_builtin; refine wpList_append_own _ rfl (.tmp 16) (.tmp 20) 25 rfl w.heap.size 31 i0 _ 4 64 Try.underlying25 hi0 hz0 hz1 hz2 rfl (by omega) u4 k cs rfl (hown.alloc _) ⟨w2.heap.size, 0, none⟩ 1 1 _ rfl rfl (news_blk (Blk.new w2 _ _)) (by simp [Value.oneCell']) (by unfold maxLen; omega) (by omega) (by simp; omega) ?_; intro v' w3 hown' hgrow _)
      obtain ⟨r1, r2, r3, r4, r5⟩ := HR.out
      exact ⟨⟨k + 1, _, _, _, _, _, by omega, by go_num, Lib.hid (LRI.next HOA.out HK.out.st HK.out.tell HA.out hws HRA.out r1 r2 r3 r4 r5 hown' hgrow)⟩, by simp [intOf]; omega⟩
    · have : k = l.length := by omega
      subst this
      go_wp2_with fail
      go_ret
      have h := HK.out
      have t := h.tell
      have o := h.outs
      rw [List.take_length] at t
      exact ⟨u4, ds, rfl, ⟨cs, by rw [t.1]; exact o.own, o.tr⟩, t, HB.out.trans o.below⟩
end Go.Proofs.Ytinajjceojfflaa
