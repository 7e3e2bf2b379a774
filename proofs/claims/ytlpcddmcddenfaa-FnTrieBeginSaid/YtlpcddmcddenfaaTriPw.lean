/- laws.FnTriePrefix: the walk. -/
import Derived.Test.YtlpcddmcddenfaaTriK1
import Derived.Test.YtlpcddmcddenfaaReg2
namespace Go.Proofs.Ytlpcddmcddenfaa.Kp
open Go.RowKit Tri

theorem one_word {W : World} {g : Nat} {x : WordD} (h : Blk W g #[.int .i64 x.act, str x.key, .int .i64 x.val] 28) : SlC 3 wordCell W W.heap.size (.slice (some ⟨g, 0, none⟩) 1 1) [x] := by
  refine ⟨⟨_, 1, rfl, .inr ⟨g, 0, rfl, Nat.le_refl _, h.lt, h.lt, fun i a ha j u hu => ?_⟩⟩⟩
  have hi : i = 0 := by have := (List.getElem?_eq_some_iff.1 ha).1; simp at this; exact this
  subst hi
  simp at ha
  subst ha
  simp only [Nat.zero_mul, Nat.add_zero, Nat.zero_add]
  rw [h.cell j, ← hu]
  simp [wordCell]
theorem step_callw {P : Program} {ops : Array Oper} {o : Oper} {a : Act} {w : World} {K : Act → World → Prop} {Q : Exit → Act → World → Prop} {E : Prop} (hw : Region.wanted o (yielded ops a.tmps) = true) (f : FuncId) (args : Array Value)
    (hrun : (execOp a.eval o).run P w = .ok (.enter f args) w) (hc : Calls P f args w fun e w' => ∃ v, e = .returned v ∧ K (a.put o.dst v) w') : if Region.wanted o (yielded ops a.tmps) = true then Oper.wp P o a w K Q else E := by
  rw [if_pos hw]
  unfold Oper.wp
  rw [hrun]
  refine hc.mono ?_
  rintro e w' ⟨v, rfl, hK⟩
  exact hK
theorem runS_wf' (l : List WordD) : (runS new0 l).t.Wf := runS_wf l (s := new0) trivial
/-- what the steps ask of what lies there. -/
theorem fit_keys {l : List WordD} (hf : fitW l) (hln : l.length ≤ 2147483647) : (runS new0 l).t.keys.length ≤ 2147483647 ∧ (runS new0 l).t.md ≤ 2147483647 := by
  have h := fit_run l hf l.length
  rw [List.take_length] at h
  obtain ⟨h1, h2, _, _⟩ := h
  exact ⟨by rw [keys_cnt]; omega, h2⟩
theorem key_md : ∀ (t : Tr) (x : Txt), x ∈ t.keys → x.length ≤ t.md
  | .nil, x, h => by simp [Tr.keys, Tr.ent] at h
  | .node c l m r v b, x, h => by
    rw [keys_node] at h
    simp only [List.mem_append, List.mem_map] at h
    simp only [Tr.md]
    rcases h with h | h | ⟨y, hy, rfl⟩ | h
    · have := key_md l x h; omega
    · cases b <;> simp at h
      subst h; simp; omega
    · have := key_md m y hy; simp; omega
    · have := key_md r x h; omega
set_option maxRecDepth 100000 in
set_option maxHeartbeats 3200000 in
theorem triePrefix_calls (lv : Value) (l : List WordD) (h : Txt) (w : World) (hl : SlC 3 wordCell w w.heap.size lv l) (hna : ∀ m c, lv = .slice none m c → m = 0 ∧ c = 0) :
    Calls Try.prog 6 #[lv, str h] w fun e w' => e = .returned (.bool true) ∧ Below w.heap.size w w' := by
  obtain ⟨A3, c3, rfl⟩ := hl.form
  have hsz := size_str h
  have HL := Lib.hid hl
  have HNA := Lib.hid hna
  have HC := Lib.hid (fits6_calls _ l w hl)
  clear hl hna
  obtain ⟨ft, hft⟩ : ∃ ft, ft = fitB l := ⟨_, rfl⟩
  rw [← hft] at HC
  have HFT := Lib.hid hft
  clear hft
  by_cases hh : (h.length : Int) ≤ 2147483647
  case neg =>
    have hh' : (2147483647 : Int) < (h.length : Int) := by omega
    go_enter Try.func6, Try.ntmps6
    go_wp2_with fail
    refine HC.out.mono ?_
    rintro e w1 ⟨rfl, b1⟩
    cases ft <;> (go_wp2; go_ret; exact ⟨rfl, b1⟩)
  have hh' : ¬ (2147483647 : Int) < (h.length : Int) := by omega
  go_enter Try.func6, Try.ntmps6
  go_wp2_with fail
  refine HC.out.mono ?_
  rintro e w1 ⟨rfl, b1⟩
  cases ft with
  | false =>
    go_wp2
    go_ret
    exact ⟨rfl, b1⟩
  | true =>
    obtain ⟨hln, hfw⟩ := fitB_spec HFT.out.symm
    have hk4 := fit_keys hfw hln
    have hwf := runS_wf' l
    obtain ⟨s, hs⟩ : ∃ s, s = runS new0 l := ⟨_, rfl⟩
    have e4 : tellW ⟨4, [], 0⟩ s = ⟨0, false, [], s.t.keys⟩ := rfl
    have e5 : tellW ⟨5, h, 0⟩ s = ⟨0, false, [], s.t.keys.filter (fun x => h.isPrefixOf x)⟩ := by show (⟨0, false, [], kwp s.t h⟩ : SaysD) = _; rw [kwp_is h (by rw [hs]; exact hwf)]
    have HWL := Lib.hid (fun (mv : Value) (x : WordD) (W : World) (hb : Below w.heap.size w W) (hm : SlC 3 wordCell W W.heap.size mv [x]) (hx : x.key.length ≤ 2147483647) => wordLast_calls _ mv l x W ((HL.out.below hb).mono hb.size) hm hln hfw hx HNA.out)
    rw [← hs] at hk4 hwf HWL
    have H4 := Lib.hid (And.intro hk4 (And.intro hwf (And.intro e4 e5)))
    have HB1 := Lib.hid b1
    clear hfw hk4 hwf hs e4 e5 b1
    go_wp2_with fail
    have hA := (Blk.new w1 #[.int .i64 4, str [], .int .i64 0] 28)
    have hbA := HB1.out.alloc HB1.out.size (.cells #[.int .i64 4, str [], .int .i64 0] 28)
    refine (HWL.out _ ⟨4, [], 0⟩ _ hbA (one_word hA) (by simp)).mono ?_
    rintro e w2 ⟨kv, rfl, n2, b2⟩
    rw [H4.out.2.2.1] at *
    obtain ⟨kA, kc, rfl⟩ := n2.form
    have HN2 := Lib.hid n2
    have HB2 := Lib.hid (hbA.trans (b2.mono hbA.size))
    clear n2 b2 hA hbA
    simp only
    go_wp2_with fail
    have hsa := (Blk.new w2 #[.int .i64 0, .bool false, str [], .slice kA s.t.keys.length kc] 31).alloc (.cells #[.int .i64 5, str h, .int .i64 0] 28)
    have hA := Blk.new (w2.alloc (.cells #[.int .i64 0, .bool false, str [], .slice kA s.t.keys.length kc] 31)) #[.int .i64 5, str h, .int .i64 0] 28
    rw [show (w2.alloc (.cells #[.int .i64 0, .bool false, str [], .slice kA s.t.keys.length kc] 31)).heap.size = w2.heap.size + 1 by simp] at hA
    have hbA := (HB2.out.alloc HB2.out.size (.cells #[.int .i64 0, .bool false, str [], .slice kA s.t.keys.length kc] 31)).alloc (by have := HB2.out.size; simp; omega) (.cells #[.int .i64 5, str h, .int .i64 0] 28)
    have hbX : Below w2.heap.size w2 ((w2.alloc (.cells #[.int .i64 0, .bool false, str [], .slice kA s.t.keys.length kc] 31)).alloc (.cells #[.int .i64 5, str h, .int .i64 0] 28)) := ((Below.refl _ w2).alloc (Nat.le_refl _) _).alloc (by simp) _
    refine (HWL.out _ ⟨5, h, 0⟩ _ hbA (one_word hA) (by simp only; omega)).mono ?_
    rintro e w3 ⟨kv, rfl, n3, b3⟩
    rw [H4.out.2.2.2] at *
    obtain ⟨kB, kd, rfl⟩ := n3.form
    obtain ⟨fl, hfl⟩ : ∃ fl, fl = s.t.keys.filter (fun x => h.isPrefixOf x) := ⟨_, rfl⟩
    simp only at n3
    rw [← hfl] at n3
    simp only
    rw [← hfl]
    obtain ⟨W, hW⟩ : ∃ W, W = w3.alloc (.cells #[.int .i64 0, .bool false, str [], .slice kB fl.length kd] 31) := ⟨_, rfl⟩
    have hbW : Below w3.heap.size w3 W := by rw [hW]; exact (Below.refl _ w3).alloc (Nat.le_refl _) _
    have hs7 : Blk W w3.heap.size #[.int .i64 0, .bool false, str [], .slice kB fl.length kd] 31 := by rw [hW]; exact Blk.new w3 _ _
    have hs5 := (hsa.below b3 hsa.lt).below hbW (Nat.lt_of_lt_of_le hsa.lt b3.size)
    have hn2 := ((HN2.out.below hbX).below b3).below hbW
    have hn3 := n3.below hbW
    have hBW := (hbA.trans (b3.mono hbA.size)).trans (hbW.mono (Nat.le_trans hbA.size b3.size))
    have s7 := hs7.cell 3
    have s5 := hs5.cell 3
    have HW := Lib.hid hW
    have HX := Lib.hid (And.intro hn2 (And.intro hn3 (And.intro hBW hfl)))
    have HY := Lib.hid (And.intro hs5 hs7)
    simp only [List.getElem?_toArray] at s5 s7
    clear hsa hA hbA hbX n3 b3 hW hbW hs7 hs5 hn2 hn3 hBW hfl
    go_upto_region 5 with (fail)
    change Code.wp _ _ _ _ (w3.alloc (.cells #[.int .i64 0, .bool false, str [], .slice kB fl.length kd] 31))
    rw [← HW.out]
    generalize w3.heap.size = b7 at *
    generalize w2.heap.size = b5 at *
    refine wp_region_G (fun w' => w'.cell? ⟨b5, 3, none⟩ = some (.slice kA s.t.keys.length kc) ∧ w'.cell? ⟨b7, 3, none⟩ = some (.slice kB fl.length kd)) (fun _ => false) (by kernel_rfl) ?_
    have hS0 : (fun w' : World => w'.cell? ⟨b5, 3, none⟩ = some (.slice kA s.t.keys.length kc) ∧ w'.cell? ⟨b7, 3, none⟩ = some (.slice kB fl.length kd)) W.drew := ⟨s5, s7⟩
    refine wpAnyG_take (i := 0) (v := ?_) rfl rfl (by kernel_rfl) (by kernel_rfl) (by kernel_rfl) (by kernel_rfl) (fun _ _ _ h => h) (by rfl) ?_ hS0 ?_
    rotate_left 1
    · intro w' hSw; (try dsimp only at hSw); go_simp; (try with_reducible rfl)
    simp only [Act.put, List.getElem_toArray, List.getElem_cons_succ, List.getElem_cons_zero, List.setIfInBounds_toArray, List.set_cons_zero, List.set_cons_succ]
    refine wpAnyG_take (i := 1) (v := ?_) rfl rfl (by kernel_rfl) (by kernel_rfl) (by kernel_rfl) (by kernel_rfl) (fun _ _ _ h => h) (by rfl) ?_ hS0 ?_
    rotate_left 1
    · intro w' hSw; (try dsimp only at hSw); go_simp; (try with_reducible rfl)
    simp only [Act.put, List.getElem_toArray, List.getElem_cons_succ, List.getElem_cons_zero, List.setIfInBounds_toArray, List.set_cons_zero, List.set_cons_succ]
    refine wpAnyG_take (i := 2) (v := ?_) rfl rfl (by kernel_rfl) (by kernel_rfl) (by kernel_rfl) (by kernel_rfl) (fun _ _ _ h => h) (by rfl) ?_ hS0 ?_
    rotate_left 1
    · intro w' hSw; (try dsimp only at hSw); go_simp; (try with_reducible rfl)
    simp only [Act.put, List.getElem_toArray, List.getElem_cons_succ, List.getElem_cons_zero, List.setIfInBounds_toArray, List.set_cons_zero, List.set_cons_succ]
    refine wpAnyG_take (i := 3) (v := ?_) rfl rfl (by kernel_rfl) (by kernel_rfl) (by kernel_rfl) (by kernel_rfl) (fun _ _ _ h => h) (by rfl) ?_ hS0 ?_
    rotate_left 1
    · intro w' hSw; (try dsimp only at hSw); go_simp; (try with_reducible rfl)
    simp only [Act.put, List.getElem_toArray, List.getElem_cons_succ, List.getElem_cons_zero, List.setIfInBounds_toArray, List.set_cons_zero, List.set_cons_succ]
    refine wpAnyG_take (i := 4) (v := ?_) rfl rfl (by kernel_rfl) (by kernel_rfl) (by kernel_rfl) (by kernel_rfl) (fun _ _ _ h => h) (by rfl) ?_ hS0 ?_
    rotate_left 1
    · intro w' hSw; (try dsimp only at hSw); go_simp; (try with_reducible rfl)
    simp only [Act.put, List.getElem_toArray, List.getElem_cons_succ, List.getElem_cons_zero, List.setIfInBounds_toArray, List.set_cons_zero, List.set_cons_succ]
    refine wpAnyG_take (i := 5) (v := ?_) rfl rfl (by kernel_rfl) (by kernel_rfl) (by kernel_rfl) (by kernel_rfl) (fun _ _ _ h => h) (by rfl) ?_ hS0 ?_
    rotate_left 1
    · intro w' hSw; (try dsimp only at hSw); go_simp; (try with_reducible rfl)
    simp only [Act.put, List.getElem_toArray, List.getElem_cons_succ, List.getElem_cons_zero, List.setIfInBounds_toArray, List.set_cons_zero, List.set_cons_succ]
    refine wpAnyG_take (i := 6) (v := ?_) rfl rfl (by kernel_rfl) (by kernel_rfl) (by kernel_rfl) (by kernel_rfl) (fun _ _ _ h => h) (by rfl) ?_ hS0 ?_
    rotate_left 1
    · intro w' hSw; (try dsimp only at hSw); go_simp; (try with_reducible rfl)
    simp only [Act.put, List.getElem_toArray, List.getElem_cons_succ, List.getElem_cons_zero, List.setIfInBounds_toArray, List.set_cons_zero, List.set_cons_succ]
    refine wpAnyG_take (i := 7) (v := ?_) rfl rfl (by kernel_rfl) (by kernel_rfl) (by kernel_rfl) (by kernel_rfl) (fun _ _ _ h => h) (by rfl) ?_ hS0 ?_
    rotate_left 1
    · intro w' hSw; (try dsimp only at hSw); go_simp; (try with_reducible rfl)
    simp only [Act.put, List.getElem_toArray, List.getElem_cons_succ, List.getElem_cons_zero, List.setIfInBounds_toArray, List.set_cons_zero, List.set_cons_succ]
    refine wpAnyG_take (i := 8) (v := ?_) rfl rfl (by kernel_rfl) (by kernel_rfl) (by kernel_rfl) (by kernel_rfl) (fun _ _ _ h => h) (by rfl) ?_ hS0 ?_
    rotate_left 1
    · intro w' hSw; (try dsimp only at hSw); go_simp; (try with_reducible rfl)
    simp only [Act.put, List.getElem_toArray, List.getElem_cons_succ, List.getElem_cons_zero, List.setIfInBounds_toArray, List.set_cons_zero, List.set_cons_succ]
    refine wpAnyG_take (i := 9) (v := ?_) rfl rfl (by kernel_rfl) (by kernel_rfl) (by kernel_rfl) (by kernel_rfl) (fun _ _ _ h => h) (by rfl) ?_ hS0 ?_
    rotate_left 1
    · intro w' hSw; (try dsimp only at hSw); go_simp; (try with_reducible rfl)
    simp only [Act.put, List.getElem_toArray, List.getElem_cons_succ, List.getElem_cons_zero, List.setIfInBounds_toArray, List.set_cons_zero, List.set_cons_succ]
    have HD := Lib.hid (show Below W.heap.size W W.drew from Below.drewN W 1)
    refine wpAnyG_ready (rs := [10]) (by kernel_rfl) (by simp) (AllReadyG.cons rfl (fun K10 hK10 => ?_) AllReadyG.nil)
    refine step_callw (by rfl) 18 #[.slice kA s.t.keys.length kc, str h] (by go_simp) ((with_calls _ s.t.keys h W.drew (HX.out.1.below HD.out) (Nat.le_trans H4.out.1.1 (by omega)) (fun x hx => Nat.le_trans (key_md _ x hx) (Nat.le_trans H4.out.1.2 (by omega))) (by omega)).mono ?_)
    rintro e w4 ⟨v4, rfl, o4, b4⟩
    refine ⟨_, rfl, ?_⟩
    rw [← HX.out.2.2.2] at o4
    have hB4 := HD.out.trans b4
    have t5 := (hB4.cell (p := ⟨b5, 3, none⟩) HY.out.1.lt).trans s5
    have t7 := (hB4.cell (p := ⟨b7, 3, none⟩) HY.out.2.lt).trans s7
    have hn4 := own_NX (f := str) rfl o4
    have hn5 := HX.out.2.1.below hB4
    have HB4 := Lib.hid (HX.out.2.2.1.trans (hB4.mono HX.out.2.2.1.size))
    refine hK10.out _ _ (fun _ => ⟨t5, t7⟩) ?_
    simp only [Act.put, List.getElem_toArray, List.getElem_cons_succ, List.getElem_cons_zero, List.setIfInBounds_toArray, List.set_cons_zero, List.set_cons_succ]
    refine wpAnyG_ready (rs := [11]) (by kernel_rfl) (by simp) (AllReadyG.cons rfl (fun K11 hK11 => ?_) AllReadyG.nil)
    refine step_callw (by rfl) 17 #[.slice kB fl.length kd, v4] (by go_simp) ((sameWords_calls _ v4 fl w4 hn5 hn4 (by rw [HX.out.2.2.2]; exact Nat.le_trans (List.length_filter_le _ _) (Nat.le_trans H4.out.1.1 (by omega)))).mono ?_)
    rintro e w5 ⟨rfl, b5'⟩
    refine ⟨_, rfl, ?_⟩
    have r5 := (b5'.cell (p := ⟨b5, 3, none⟩) (World.block_lt_of_cell? w4 _ t5)).trans t5
    have r7 := (b5'.cell (p := ⟨b7, 3, none⟩) (World.block_lt_of_cell? w4 _ t7)).trans t7
    have HB5 := Lib.hid (HB4.out.trans (b5'.mono HB4.out.size))
    clear b5' b4 hB4 hn4 hn5 o4
    refine hK11.out _ _ (fun _ => ⟨r5, r7⟩) ?_
    simp only [Act.put, List.getElem_toArray, List.getElem_cons_succ, List.getElem_cons_zero, List.setIfInBounds_toArray, List.set_cons_zero, List.set_cons_succ]
    refine wpAnyG_ready (rs := [12]) (by kernel_rfl) (by simp) (AllReadyG.cons rfl (fun K12 hK12 => ?_) AllReadyG.nil)
    go_simp
    refine hK12.out _ _ (fun _ => ⟨r5, r7⟩) ?_
    (try simp only [Act.put, List.getElem_toArray, List.getElem_cons_succ, List.getElem_cons_zero, List.setIfInBounds_toArray, List.set_cons_zero, List.set_cons_succ])
    refine wpAnyG_ready (rs := [13]) (by kernel_rfl) (by simp) (AllReadyG.cons rfl (fun K13 hK13 => ?_) AllReadyG.nil)
    go_simp
    refine hK13.out _ _ (fun _ => ⟨r5, r7⟩) ?_
    refine wpAnyG_done (by kernel_rfl) ?_ _
    go_wp2_with fail
    go_ret
    exact ⟨rfl, HB5.out⟩
end Go.Proofs.Ytlpcddmcddenfaa.Kp
