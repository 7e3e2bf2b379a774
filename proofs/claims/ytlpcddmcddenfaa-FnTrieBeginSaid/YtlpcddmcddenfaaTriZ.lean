/- laws of tries: zzFits6, wordLast. -/
import Derived.Test.YtlpcddmcddenfaaTriY
namespace Go.Proofs.Ytlpcddmcddenfaa.Kp
open Go.RowKit Tri

def fitW (l : List WordD) : Prop := ∀ a ∈ l, a.key.length ≤ 2147483647
theorem fits7_calls (a : WordD) (w : World) : Calls Try.prog 19 #[.agg #[.int .i64 a.act, str a.key, .int .i64 a.val]] w fun e w' => e = .returned (.bool (decide (a.key.length ≤ 2147483647))) ∧ ∃ n, w' = (w.alloc (.cells #[.int .i64 a.act, str a.key, .int .i64 a.val] 28)).drewN n := by
  have hsz := size_str a.key
  obtain ⟨act, key, val⟩ := a
  simp only at hsz ⊢
  by_cases h : key.length ≤ 2147483647
  · have h1 : ¬ (2147483647 : Int) < (key.length : Int) := by omega
    go_enter Try.func19, Try.ntmps19
    go_wp2
    go_ret
    exact ⟨by simp [h], 0, rfl⟩
  · have h1 : (2147483647 : Int) < (key.length : Int) := by omega
    go_enter Try.func19, Try.ntmps19
    go_wp2
    go_ret
    exact ⟨by simp; omega, 0, rfl⟩
def fitB (l : List WordD) : Bool := decide (l.length ≤ 2147483647) && l.all (fun a => decide (a.key.length ≤ 2147483647))
theorem fitB_spec {l : List WordD} (h : fitB l = true) : l.length ≤ 2147483647 ∧ fitW l := by
  unfold fitB at h
  rw [Bool.and_eq_true, decide_eq_true_eq, List.all_eq_true] at h
  exact ⟨h.1, fun a ha => by simpa using h.2 a ha⟩
set_option maxHeartbeats 1000000 in
theorem fits6_calls (lv : Value) (l : List WordD) (w : World) (hl : SlC 3 wordCell w w.heap.size lv l) :
    Calls Try.prog 8 #[lv] w fun e w' => e = .returned (.bool (fitB l)) ∧ Below w.heap.size w w' := by
  obtain ⟨A3, c3, rfl⟩ := hl.form
  have HL := Lib.hid hl
  clear hl
  by_cases h0 : (l.length : Int) ≤ 2147483647
  case neg =>
    go_enter Try.func8, Try.ntmps8
    go_wp2
    go_ret
    have e : fitB l = false := by unfold fitB; rw [decide_eq_false (by omega)]; rfl
    exact ⟨by rw [e]; rfl, Below.refl _ _⟩
  go_enter Try.func8, Try.ntmps8
  go_wp2_with fail
  go_loopw [10] (fun i wr => ∃ k : Nat, k ≤ l.length ∧ i = .int .i64 (k : Nat) ∧ Hid (Below w.heap.size w wr ∧ ∀ a ∈ l.take k, a.key.length ≤ 2147483647)) (fun i _ => l.length - (intOf i).toNat)
  case atStart => exact ⟨0, Nat.zero_le _, rfl, ⟨Below.refl _ _, fun _ h => by simp at h⟩⟩
  case round =>
    obtain ⟨k, hk, rfl, HB⟩ := hrel
    by_cases hlt : k < l.length
    · obtain ⟨b, off, a, rfl, g1, g3, g4, g5, z⟩ := HL.out.at_ hlt
      obtain ⟨act, key, val⟩ := a
      have hw := HB.out.1
      have q0 := (hw.cell (p := ⟨b, off + k * 3, none⟩) g3).trans (z 0 _ rfl)
      have q1 := (hw.cell (p := ⟨b, off + k * 3 + 1, none⟩) g3).trans (z 1 _ rfl)
      have q2 := (hw.cell (p := ⟨b, off + k * 3 + 2, none⟩) g3).trans (z 2 _ rfl)
      simp only at q0 q1 q2
      have HC := Lib.hid (fits7_calls ⟨act, key, val⟩ (wr.alloc (.cells #[.int .i64 act, str key, .int .i64 val] 28)))
      have HBB := Lib.hid (fun n => (Below.refl w.heap.size w).trans (((hw.alloc hw.size (.cells #[.int .i64 act, str key, .int .i64 val] 28)).alloc (by have := hw.size; simp; omega) (.cells #[.int .i64 act, str key, .int .i64 val] 28)).trans (Below.drewN _ n)))
      have HA := Lib.hid g5
      clear g5 z hw
      go_wp2_with fail
      refine HC.out.mono ?_
      rintro e w2 ⟨rfl, n1, rfl⟩
      by_cases hf : key.length ≤ 2147483647
      · have hd : decide (key.length ≤ 2147483647) = true := by simp [hf]
        rw [hd]
        have hwn := HBB.out n1
        have HN := Lib.hid (show Below w.heap.size w _ ∧ ∀ a ∈ l.take (k + 1), a.key.length ≤ 2147483647 from ⟨hwn, fun a ha => by
          rw [List.take_add_one, HA.out] at ha
          rcases List.mem_append.1 ha with ha | ha
          · exact HB.out.2 a ha
          · simp at ha; subst ha; exact hf⟩)
        clear hwn q0 q1 q2
        go_wp2_with fail
        exact ⟨⟨k + 1, by omega, by go_num, HN⟩, by simp [intOf]; omega⟩
      · have hd : decide (key.length ≤ 2147483647) = false := by simp; omega
        rw [hd]
        have HN := Lib.hid (HBB.out n1)
        have e : fitB l = false := by
          unfold fitB
          rw [show l.all _ = false from by
            rw [List.all_eq_false]
            exact ⟨_, List.mem_of_getElem? HA.out, by simpa using hf⟩, Bool.and_false]
        clear q0 q1 q2
        go_wp2_with fail
        go_ret
        exact ⟨by rw [e]; rfl, HN.out⟩
    · have : k = l.length := by omega
      subst this
      have hb := HB.out
      rw [List.take_length] at hb
      have HBX := Lib.hid hb
      clear hb
      go_wp2_with fail
      go_ret
      have e : fitB l = true := by
        unfold fitB
        rw [decide_eq_true (by omega), Bool.true_and, List.all_eq_true]
        exact fun a ha => by simpa using HBX.out.2 a ha
      exact ⟨by rw [e]; rfl, HBX.out.1⟩
theorem infoWord : (Try.prog.info? 28).map (fun i => (i.zero, i.size, i.bytes)) = some (some (.agg #[.int .i64 0, .string ⟨#[]⟩, .int .i64 0]), 3, 32) := by kernel_rfl
theorem own_SlC' {α : Type} {s : Nat} {cells : α → List Value} (hs : ∀ a, (cells a).length = s) {w : World} {B n : Nat} {T : TypeId} {v : Value} {l : List α} (hn : l.length = n) (h : w.ownsRow B T s v n (l.flatMap cells)) : SlC s cells w w.heap.size v l := by
  subst hn; exact own_SlC hs h
/-- what the last step of a script tells. -/
structure LastW (w' : World) (d : SaysD) (kv : Value) : Prop where
  keys : NX 9 str w' kv d.keys
set_option maxRecDepth 100000 in
set_option maxHeartbeats 3200000 in
theorem wordLast_calls (lv mv : Value) (l : List WordD) (x : WordD) (w : World) (hl : SlC 3 wordCell w w.heap.size lv l) (hm : SlC 3 wordCell w w.heap.size mv [x]) (hln : l.length ≤ 2147483647) (hf : fitW l) (hx : x.key.length ≤ 2147483647)
    (hna : ∀ m c, lv = .slice none m c → m = 0 ∧ c = 0) :
    Calls Try.prog 12 #[lv, mv] w fun e w' => ∃ kv, e = .returned (.tuple #[.agg #[.int .i64 (tellW x (runS new0 l)).val, .bool (tellW x (runS new0 l)).ok, str (tellW x (runS new0 l)).key, kv], .bool true]) ∧ NX 9 str w' kv (tellW x (runS new0 l)).keys ∧ Below w.heap.size w w' := by
  obtain ⟨A3, c3, rfl⟩ := hl.form
  obtain ⟨A4, c4, rfl⟩ := hm.form
  obtain ⟨i0, hi0, hz0, hz1, hz2⟩ := info_parts infoWord
  have hnb : ∀ m c, (Value.slice A4 [x].length c4) = .slice none m c → m = 0 ∧ c = 0 := by
    intro m c e
    obtain ⟨A, cap, e1, h⟩ := hm.is
    rcases h with h | ⟨b, off, e2, _⟩
    · cases h
    · cases e1; subst e2; cases e
  obtain ⟨W0, hW0⟩ : ∃ W0, W0 = (w.alloc (.cells #[.int .i64 0, .bool false, .string ⟨#[]⟩, .slice none 0 0] 31)).alloc (.cells #[] 28) := ⟨_, rfl⟩
  have hB0 : Below w.heap.size w W0 := by rw [hW0]; exact ((Below.refl w.heap.size w).alloc (Nat.le_refl _) _).alloc (by simp) _
  have hz : Blk W0 w.heap.size #[.int .i64 0, .bool false, .string ⟨#[]⟩, .slice none 0 0] 31 := by rw [hW0]; exact (Blk.new w _ _).alloc _
  have hO : W0.ownsRow w.heap.size 28 3 (.slice (some ⟨w.heap.size + 1, 0, none⟩) 0 0) 0 [] := by
    rw [hW0]
    have := own_mt (w.alloc (.cells #[.int .i64 0, .bool false, .string ⟨#[]⟩, .slice none 0 0] 31)) w.heap.size (by simp) 28 3
    rwa [show (w.alloc (.cells #[.int .i64 0, .bool false, .string ⟨#[]⟩, .slice none 0 0] 31)).heap.size = w.heap.size + 1 by simp] at this
  have H0 := Lib.hid (And.intro hB0 (And.intro hz hO))
  have HW0 := Lib.hid hW0
  have HL := Lib.hid ((hl.below hB0).mono hB0.size)
  have HM := Lib.hid (show SlC 3 wordCell w w.heap.size (.slice A4 1 c4) [x] from hm)
  have HNA := Lib.hid hna
  have HNB := Lib.hid (show ∀ m c, (Value.slice A4 1 c4) = .slice none m c → m = 0 ∧ c = 0 from hnb)
  have HF := Lib.hid (And.intro hf hx)
  obtain ⟨d, hd⟩ : ∃ d, d = tellW x (runS new0 l) := ⟨_, rfl⟩
  rw [← hd]
  have HD := Lib.hid hd
  show Calls _ _ #[_, .slice A4 1 c4] _ _
  have hZ := hB0.size
  clear hl hm hna hnb hf hd hB0 hz hO hW0
  go_enter Try.func12, Try.ntmps12
  go_wp2_with (at_builtin; first
    | (rw [← HW0.out]; refine wpList_append_C wordCell_len _ rfl (.tmp 8) (.tmp 9) 22 rfl w.heap.size 28 i0 _ 32 Try.underlying22 hi0 hz0 hz1 hz2 rfl (by omega) (.slice (some ⟨w.heap.size + 1, 0, none⟩) 0 0) 0 [] (by rfl) (by with_reducible exact H0.out.2.2) (.slice A3 l.length c3) l (by rfl) (by with_reducible exact HL.out) (by with_reducible exact HNA.out) (by intro a; simp [wordCell, Value.oneCell']) (by unfold maxLen; omega) (by omega) (by omega) ?_
       intro v1 w1 o1 g1
       have HB1 := Lib.hid (H0.out.1.grown g1 hZ (fun g hg => (H0.out.2.2.lt g hg).1))
       have HZ1 := Lib.hid (kd_grown H0.out.2.1 H0.out.2.2 g1 (by decide))
       have HO1 := Lib.hid o1
       have hs1 := HB1.out.size
       clear o1 g1)
    | (refine wpList_append_C wordCell_len _ rfl (.tmp 10) (.tmp 11) 22 rfl w.heap.size 28 i0 _ 32 Try.underlying22 hi0 hz0 hz1 hz2 rfl (by omega) v1 (0 + l.length) ([] ++ l.flatMap wordCell) (by rfl) (by with_reducible exact HO1.out) (.slice A4 1 c4) [x] (by rfl) (by with_reducible exact HM.out.below HB1.out) (by with_reducible exact HNB.out) (by intro a; simp [wordCell, Value.oneCell']) (by unfold maxLen; simp; omega) (by simp; omega) (by omega) ?_
       intro v2 w2 o2 g2
       have HB2 := Lib.hid (HB1.out.grown g2 hs1 (fun g hg => (HO1.out.lt g hg).1))
       have HZ2 := Lib.hid (kd_grown HZ1.out HO1.out g2 (by decide))
       have HO2 := Lib.hid o2
       obtain ⟨A5, c5, rfl⟩ := kd_form o2
       clear o2 g2))
  have hsl : SlC 3 wordCell w2 w2.heap.size (.slice A5 (0 + l.length + [x].length) c5) (l ++ [x]) := own_SlC' (n := 0 + l.length + [x].length) wordCell_len (by simp) (by rw [List.flatMap_append]; exact HO2.out)
  have HC := Lib.hid (trieRun_calls _ (l ++ [x]) w2 hsl (by simp; omega) (fun a ha => by
    rcases List.mem_append.1 ha with ha | ha
    · exact HF.out.1 a ha
    · simp at ha; subst ha; exact HF.out.2))
  have hn2 : 0 + l.length + [x].length = l.length + 1 := by simp
  rw [hn2] at HC
  clear hsl hn2
  go_wp2_with fail
  refine HC.out.mono ?_
  rintro e w3 ⟨v3, rfl, ⟨cs, o3, t3⟩, b3⟩
  have hln : (runW new0 (l ++ [x])).length = l.length + 1 := by rw [runW_len]; simp
  have hlast : (runW new0 (l ++ [x]))[l.length]? = some (tellW x (runS new0 l)) := by rw [runW_snoc, List.getElem?_append_right (by rw [runW_len]; exact Nat.le_refl _), runW_len]; simp
  rw [hln] at o3
  rw [← HD.out] at hlast
  obtain ⟨kv, r0, r1, r2, r3, hk⟩ := t3.at_ hlast
  rcases o3.2 with ⟨_, h0⟩ | ⟨g, cap, cur, rfl, h1, h2, h3, h4, h5, h6⟩
  · omega
  have hat : ∀ j u, cs[l.length * 4 + j]? = some u → w3.cell? ⟨g, l.length * 4 + j, none⟩ = some u := fun j u hu => by
    rw [cell_of_row w3 g _ cur _ _ h2, ← hu, ← h6]
    have hlt := (List.getElem?_eq_some_iff.1 hu).1
    rw [← h6, List.length_take] at hlt
    rw [List.getElem?_take_of_lt (by omega)]
    simp
  obtain ⟨kA, kc, rfl⟩ := hk.form
  have a0 := hat 0 _ r0
  have a1 := hat 1 _ r1
  have a2 := hat 2 _ r2
  have a3 := hat 3 _ r3
  rw [Nat.add_zero] at a0
  have hz3 : Blk w3 w.heap.size #[.int .i64 0, .bool false, .string ⟨#[]⟩, .slice none 0 0] 31 := HZ2.out.below b3 HZ2.out.lt
  have zc0 := hz3.cell 0
  have zc1 := hz3.cell 1
  have zc2 := hz3.cell 2
  have zc3 := hz3.cell 3
  have zf := hz3.frozen
  simp only [List.getElem?_toArray] at zc0 zc1 zc2 zc3
  have HE := Lib.hid (And.intro hk (And.intro (HB2.out.trans (b3.mono HB2.out.size)) hz3))
  have ew : IntKind.i64.wrap ((l.length : Int) + 1 - 1) = (l.length : Int) := by rw [show (l.length : Int) + 1 - 1 = l.length by omega]; exact IntWalk.i64_in _ (by omega)
  have ew2 : IntKind.i64.wrap (l.length : Int) = (l.length : Int) := IntWalk.i64_in _ (by omega)
  have hlq : (((l.length : Int) + 1) == 0) = false := by rw [beq_eq_false_iff_ne]; omega
  clear hk b3 o3 t3 hlast hat r0 r1 r2 r3 h2 h4 h5 h6 hz3 HC
  go_wp2_with fail
  have hz4 := (((HE.out.2.2.set 0 (.int .i64 d.val)).set 1 (.bool d.ok)).set 2 (str d.key)).set 3 (.slice kA d.keys.length kc)
  have z0 := hz4.cell 0
  have z1 := hz4.cell 1
  have z2 := hz4.cell 2
  have z3 := hz4.cell 3
  simp at z0 z1 z2 z3
  refine bodyPost_ret (v := .tuple #[.agg #[.int .i64 d.val, .bool d.ok, str d.key, .slice kA d.keys.length kc], .bool true]) (by simp [results, Try.results12, go_sem, z0, z1, z2, z3]) rfl ?_
  have hk5 := (((HE.out.1.keep (KeepT.set (T := 9) (i := 0) (u := .int .i64 d.val) HE.out.2.2 (by decide))).keep (KeepT.set (T := 9) (i := 1) (u := .bool d.ok) (HE.out.2.2.set 0 (.int .i64 d.val)) (by decide))).keep (KeepT.set (T := 9) (i := 2) (u := str d.key) ((HE.out.2.2.set 0 (.int .i64 d.val)).set 1 (.bool d.ok)) (by decide))).keep (KeepT.set (T := 9) (i := 3) (u := .slice kA d.keys.length kc) (((HE.out.2.2.set 0 (.int .i64 d.val)).set 1 (.bool d.ok)).set 2 (str d.key)) (by decide))
  have hf5 : Fr [w.heap.size] w3 ((((w3.setCell ⟨w.heap.size, 0, none⟩ (.int .i64 d.val)).setCell ⟨w.heap.size, 1, none⟩ (.bool d.ok)).setCell ⟨w.heap.size, 2, none⟩ (str d.key)).setCell ⟨w.heap.size, 3, none⟩ (.slice kA d.keys.length kc)) :=
    (((Fr.setCell w3 _ 0 _ (by simp)).comp (Fr.setCell _ _ 1 _ (by simp))).comp (Fr.setCell _ _ 2 _ (by simp))).comp (Fr.setCell _ _ 3 _ (by simp))
  exact ⟨_, rfl, hk5, HE.out.2.1.trans (hf5.below (fun x hx => by rw [List.mem_singleton] at hx; omega) HE.out.2.1.size)⟩
end Go.Proofs.Ytlpcddmcddenfaa.Kp
