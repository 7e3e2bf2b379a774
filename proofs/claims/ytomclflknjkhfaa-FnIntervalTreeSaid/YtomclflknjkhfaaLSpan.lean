/- laws.spanLast; spec.Meet, Spans.Over. -/
import Derived.Test.YtomclflknjkhfaaLBeg
namespace Go.Proofs.Ytomclflknjkhfaa
open Go.RowKit ItP

theorem Try.infoMark : (Try.prog.info? 49).map (fun i => (i.zero, i.size, i.bytes)) = some (some (.agg #[.int .i64 0, .int .i64 0, .int .i64 0, .int .i64 0]), 4, 32) := by kernel_rfl
theorem own_empty (w : World) (B : Nat) (hB : B ≤ w.heap.size) (T : TypeId) (s : Nat) : (w.alloc (.cells #[] T)).ownsRow B T s (.slice (some ⟨w.heap.size, 0, none⟩) 0 0) 0 [] :=
  ⟨by simp, .inr ⟨w.heap.size, 0, #[], rfl, hB, Blk.new w #[] T, Nat.le_refl _, by unfold maxLen; omega, by simp, by simp⟩⟩
theorem mark_one (a : MarkD) : ∀ u ∈ markCell a, u.oneCell' = true := by simp [markCell, Value.oneCell']
/-- the last thing told. -/
def lastD (l : List MarkD) : FoundD := ((runI .nil l).2.getLast?).getD ⟨zSp, false, [], 0⟩
theorem found_load {w : World} {s : Nat} {a b c d e f : Value} (h : Blk w s #[a, b, c, d, e, f] 52) : (loadVar 52 ⟨s, 0, none⟩).run Try.prog w = .ok (.agg #[a, b, c, d, e, f]) w := by
  have c0 : w.cell? ⟨s, 0, none⟩ = some a := h.cell 0
  have c1 : w.cell? ⟨s, 1, none⟩ = some b := h.cell 1
  have c2 : w.cell? ⟨s, 2, none⟩ = some c := h.cell 2
  have c3 : w.cell? ⟨s, 3, none⟩ = some d := h.cell 3
  have c4 : w.cell? ⟨s, 4, none⟩ = some e := h.cell 4
  have c5 : w.cell? ⟨s, 5, none⟩ = some f := h.cell 5
  clear h
  go_simp
set_option maxRecDepth 100000 in
set_option maxHeartbeats 3200000 in
theorem spanLast_calls (B : Nat) (lv mv : Value) (l m : List MarkD) (w : World) (_hB : B ≤ w.heap.size) (hl : SlC 4 markCell w w.heap.size lv l) (hln : ∀ n c, lv = .slice none n c → n = 0 ∧ c = 0) (hm : SlC 4 markCell w w.heap.size mv m) (hmn : ∀ n c, mv = .slice none n c → n = 0 ∧ c = 0)
    (hll : l.length ≤ 3000000000) (hmm : m.length ≤ 3000000000) (h0 : 0 < m.length) (hp : PropL (l ++ m)) :
    Calls Try.prog 26 #[lv, mv] w fun e w' => ∃ A c, e = .returned (.tuple #[.agg #[.int .i64 (lastD (l ++ m)).one.lo, .int .i64 (lastD (l ++ m)).one.hi, .int .i64 (lastD (l ++ m)).one.v, .bool (lastD (l ++ m)).ok, .slice A (lastD (l ++ m)).all.length c, .int .i64 (lastD (l ++ m)).n], .bool true]) ∧
      SpSl w' (.slice A (lastD (l ++ m)).all.length c) (lastD (l ++ m)).all ∧ Below w.heap.size w w' := by
  obtain ⟨i0, hi0, hz0, hz1, hz2⟩ := info_parts Try.infoMark
  obtain ⟨A1, c1, rfl⟩ := hl.form
  obtain ⟨A2, c2, rfl⟩ := hm.form
  obtain ⟨d, hd⟩ : ∃ d, (runI .nil (l ++ m)).2[l.length + m.length - 1]? = some d := ⟨_, List.getElem?_eq_getElem (by rw [runI_len, List.length_append]; omega)⟩
  have e : lastD (l ++ m) = d := by
    unfold lastD
    rw [List.getLast?_eq_getElem?, runI_len, List.length_append, hd]; rfl
  rw [e]
  clear e
  have HL := Lib.hid (And.intro hl (And.intro hln (And.intro hm hmn)))
  have HP := Lib.hid (And.intro hp hd)
  have F1 := Lib.hid (Fr.alloc [] w (Obj.cells #[.int .i64 0, .int .i64 0, .int .i64 0, .bool false, .slice none 0 0, .int .i64 0] 52))
  have HX := Lib.hid (Blk.new w #[.int .i64 0, .int .i64 0, .int .i64 0, .bool false, .slice none 0 0, .int .i64 0] 52)
  clear hl hm hp hd hln hmn
  go_enter Try.func26, Try.ntmps26
  go_upto_region 1 with (fail)
  generalize hW : w.alloc (Obj.cells #[.int .i64 0, .int .i64 0, .int .i64 0, .bool false, .slice none 0 0, .int .i64 0] 52) = W at F1 HX ⊢
  have HZ := Lib.hid (show W.heap.size = w.heap.size + 1 by rw [← hW]; simp)
  clear hW
  have fW : Fr [] W (W.alloc (Obj.cells #[] 49)) := Fr.alloc _ _ _
  have HF := Lib.hid (And.intro fW (F1.out.comp fW))
  clear fW
  go_wp2_with (at_builtin; first
    | (refine wpList_append_C markCell_len _ rfl (.tmp 8) (.tmp 9) 44 rfl W.heap.size 49 i0 _ 32 Try.underlying44 hi0 hz0 hz1 hz2 rfl (by omega) _ 0 [] rfl (own_empty W W.heap.size (Nat.le_refl _) _ 4) _ l rfl (HL.out.1.below (HF.out.2.below (by simp) (Nat.le_refl _))) HL.out.2.1 mark_one (by unfold maxLen; omega) (by omega) (by simp) ?_
       intro v1 w1 hown1 hgrow1
       have B1 : Below W.heap.size W w1 := ((Below.refl _ W).alloc (Nat.le_refl _) _).grown hgrow1 (by simp) (fun g hg => ((own_empty W W.heap.size (Nat.le_refl _) 49 4).lt g hg).1))
    | (refine wpList_append_C markCell_len _ rfl (.tmp 10) (.tmp 11) 44 rfl W.heap.size 49 i0 _ 32 Try.underlying44 hi0 hz0 hz1 hz2 rfl (by omega) _ _ _ rfl hown1 _ m rfl (HL.out.2.2.1.below ((F1.out.below (by simp) (Nat.le_refl w.heap.size)).trans (B1.mono (by have := HZ.out; omega)))) HL.out.2.2.2 mark_one (by unfold maxLen; omega) (by omega) B1.size ?_
       intro v2 w2 hown2 hgrow2))
  have B2 : Below W.heap.size W w2 := B1.grown hgrow2 B1.size (fun g hg => (hown1.lt g hg).1)
  have e2 : ([] : List Value) ++ l.flatMap markCell ++ m.flatMap markCell = (l ++ m).flatMap markCell := by simp
  rw [e2, Nat.zero_add] at hown2
  have HS : SlC 4 markCell w2 w2.heap.size v2 (l ++ m) := own_SlC markCell_len (by rw [List.length_append]; exact hown2)
  obtain ⟨A5, c5, rfl⟩ := own_form hown2
  have HX2 := Lib.hid (HX.out.below B2 (by have := HZ.out; omega))
  have HB2 := Lib.hid ((F1.out.below (by simp) (Nat.le_refl w.heap.size)).trans (B2.mono (by have := HZ.out; omega)))
  replace HS := Lib.hid HS
  have hlt2 := HX2.out.lt
  clear hown1 hgrow1 hown2 hgrow2 e2 B1 B2
  obtain ⟨M, hM⟩ : ∃ M, l.length + m.length = M + 1 := ⟨l.length + m.length - 1, by omega⟩
  have hP := HP.out
  rw [hM, Nat.add_sub_cancel] at hP
  replace HP := Lib.hid hP
  clear hP
  rw [hM] at HS ⊢
  have HLn := Lib.hid (show (l ++ m).length = M + 1 by rw [List.length_append, hM])
  have hMb : M ≤ 6000000000 := by omega
  clear hM hll hmm h0
  go_wp2_with fail
  refine (intervalRun_calls _ (l ++ m) w2 HS.out (by rw [HLn.out]; omega) HP.out.1).mono ?_
  rintro e w3 ⟨v3, rfl, T3, B3⟩
  obtain ⟨A6, c6, rfl⟩ := T3.form
  obtain ⟨g, ka, kc, rfl, hge, gl, hgc, q0, q1, q2, q3, q4, q5, hsp⟩ := T3.at_ HP.out.2
  have hng : ¬ g = w.heap.size := by omega
  have hng' : ¬ w.heap.size = g := by omega
  have X3 := HX2.out.below B3 hlt2
  have x0 : w3.cell? ⟨w.heap.size, 0, none⟩ = some (.int .i64 0) := X3.cell 0
  have x1 : w3.cell? ⟨w.heap.size, 1, none⟩ = some (.int .i64 0) := X3.cell 1
  have x2 : w3.cell? ⟨w.heap.size, 2, none⟩ = some (.int .i64 0) := X3.cell 2
  have x3 : w3.cell? ⟨w.heap.size, 3, none⟩ = some (.bool false) := X3.cell 3
  have x4 : w3.cell? ⟨w.heap.size, 4, none⟩ = some (.slice none 0 0) := X3.cell 4
  have x5 : w3.cell? ⟨w.heap.size, 5, none⟩ = some (.int .i64 0) := X3.cell 5
  have xf : ∀ i, w3.frozen? ⟨w.heap.size, i, none⟩ = false := X3.frozen
  have H3 := Lib.hid (And.intro X3 (And.intro hsp (HB2.out.trans (B3.mono HB2.out.size))))
  rw [runI_len, HLn.out] at hgc ⊢
  have t0 : (((M + 1 : Nat) : Int) != ((M + 1 : Nat) : Int)) = false := bne_self_eq_false _
  have t1 : (((M + 1 : Nat) : Int) == 0) = false := by rw [beq_eq_false_iff_ne]; omega
  have t2 : (((M : Int) + 1) == 0) = false := by rw [beq_eq_false_iff_ne]; omega
  have t3 : (((M : Int) + 1) != ((M : Int) + 1)) = false := bne_self_eq_false _
  have p3 : (0 : Int) ≤ (M : Int) := by omega
  have p4 : (M : Int) < ((M + 1 : Nat) : Int) := by omega
  clear X3 hsp T3 B3
  go_wp2_with fail
  refine bodyPost_ret (v := .tuple #[.agg #[.int .i64 d.one.lo, .int .i64 d.one.hi, .int .i64 d.one.v, .bool d.ok, .slice ka d.all.length kc, .int .i64 d.n], .bool true]) (by simp [results, Try.results26, go_sem, x0, x1, x2, x3, x4, x5]) rfl ?_
  obtain ⟨X3, hsp, hb⟩ := H3.out
  have fs : Fr [w.heap.size] w3 ((((((w3.setCell ⟨w.heap.size, 0, none⟩ (.int .i64 d.one.lo)).setCell ⟨w.heap.size, 1, none⟩ (.int .i64 d.one.hi)).setCell ⟨w.heap.size, 2, none⟩ (.int .i64 d.one.v)).setCell ⟨w.heap.size, 3, none⟩ (.bool d.ok)).setCell ⟨w.heap.size, 4, none⟩ (.slice ka d.all.length kc)).setCell ⟨w.heap.size, 5, none⟩ (.int .i64 d.n)) :=
    (((((Fr.setCell _ _ 0 _ (by simp)).comp (Fr.setCell _ _ 1 _ (by simp))).comp (Fr.setCell _ _ 2 _ (by simp))).comp (Fr.setCell _ _ 3 _ (by simp))).comp (Fr.setCell _ _ 4 _ (by simp))).comp (Fr.setCell _ _ 5 _ (by simp))
  exact ⟨ka, kc, rfl, hsp.keep (KeepsSp.fr fs (fun b hb => by rw [List.mem_singleton.1 hb]; exact ⟨_, _, X3, by decide⟩)), hb.trans (fs.below (by simp) hb.size)⟩
end Go.Proofs.Ytomclflknjkhfaa
