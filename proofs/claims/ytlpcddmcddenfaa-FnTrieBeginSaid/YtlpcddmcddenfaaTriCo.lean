/- tries in memory: all texts. -/
import Derived.Test.YtlpcddmcddenfaaTriCq
import Derived.Test.YtlpcddmcddenfaaReg2
namespace Go.Proofs.Ytlpcddmcddenfaa.Kp
open Go.RowKit Tri

theorem infoB : (Try.prog.info? 5).map (fun i => (i.zero, i.size, i.bytes)) = some (some (.int .u8 0), 1, 1) := by kernel_rfl
theorem infoS : (Try.prog.info? 9).map (fun i => (i.zero, i.size, i.bytes)) = some (some (.string ⟨#[]⟩), 1, 16) := by kernel_rfl
theorem CW.alloc {B : Nat} {w0 W : World} {pv qv q v : Value} {xs : Txt} {c : UInt8} {ks : List Txt} (h : CW B w0 pv qv xs c q ks v W) (o : Obj) : CW B w0 pv qv xs c q ks v (W.alloc o) :=
  ⟨h.cq.alloc o, h.br.at_ fun k hk => Below.heap_alloc _ _ _ (h.br.lt k hk).2.1, h.is, h.keep⟩
theorem cell_new1 (w : World) (v : Value) (T : TypeId) : (w.alloc (.cells #[v] T)).cell? ⟨w.heap.size, 0, none⟩ = some v := (Blk.new w #[v] T).cell 0
theorem keys_er (c : UInt8) (l m r : Tr) (v : Int) (b : Bool) (xs : Txt) (ks : List Txt) : ks ++ (Tr.node c l m r v b).keys.map (xs ++ ·) = (((ks ++ l.keys.map (xs ++ ·)) ++ (if b then [xs ++ [c]] else [])) ++ m.keys.map ((xs ++ [c]) ++ ·)) ++ r.keys.map (xs ++ ·) := by
  rw [keys_node]
  cases b <;> simp [List.map_append, List.map_map, Function.comp_def]
theorem keys_len (c : UInt8) (l m r : Tr) (v : Int) (b : Bool) : (Tr.node c l m r v b).keys.length = l.keys.length + (if b then 1 else 0) + m.keys.length + r.keys.length := by
  rw [keys_node]
  cases b <;> simp <;> omega
theorem CQ.trie' {B : Nat} {w0 W : World} {pv qv q : Value} {xs : Txt} {ks : List Txt} (_ : CQ B w0 pv qv xs q ks W) {t : TN} (ht : t.In W) (o : Obj) : t.In (W.alloc o) := ht.fr (Fr.alloc [] W o) (fun _ _ h => by cases h)
theorem CQ.bl {B : Nat} {w0 W : World} {pv qv q : Value} {xs : Txt} {ks : List Txt} (h : CQ B w0 pv qv xs q ks W) (hB : B ≤ w0.heap.size) : B ≤ W.heap.size := Nat.le_trans hB h.fr.size
set_option maxHeartbeats 8000000 in
theorem coll_calls (tb : Value) (B : Nat) : ∀ (t : TN) (w : World) (pv qv : Value) (xs : Txt) (ks : List Txt), t.In w → BRow 5 w B pv xs → w.ownsRow B 9 1 qv ks.length (ks.map str) → B ≤ w.heap.size →
    xs.length + t.er.md ≤ 4294967296 → ks.length + t.er.keys.length ≤ 4294967296 →
    Calls Try.prog 40 #[tb, .pointer t.ptr, pv, qv] w fun e w' => ∃ q, e = .returned q ∧ CQ B w pv qv xs q (ks ++ t.er.keys.map (xs ++ ·)) w' := by
  intro t
  induction t with
  | nil =>
    intro w pv qv xs ks hi hb ho hB hx hk
    have HC := Lib.hid (CQ.start hb ho)
    have e : ks ++ TN.nil.er.keys.map (xs ++ ·) = ks := by simp [TN.er, Tr.keys, Tr.ent]
    rw [e]
    clear e hb ho
    show Calls _ _ #[_, .pointer none, _, _] _ _
    go_enter Try.func40, Try.ntmps40
    go_wp2
    go_ret
    exact ⟨qv, rfl, HC.out⟩
  | node p c l m r v b ihl ihm ihr =>
    intro w pv qv xs ks hi hb ho hB hx hk
    obtain ⟨i5, hi5, hz5, hs5, hy5⟩ := info_parts infoB
    obtain ⟨i9, hi9, hz9, hs9, hy9⟩ := info_parts infoS
    obtain ⟨⟨p0, p1, p2, p3, p4, p5⟩, pf⟩ := cells_in hi.1
    have hkl := keys_len c l.er m.er r.er v b
    change ks.length + (Tr.node c l.er m.er r.er v b).keys.length ≤ _ at hk
    rw [hkl] at hk
    have hmd : l.er.md ≤ (TN.node p c l m r v b).er.md ∧ m.er.md + 1 ≤ (TN.node p c l m r v b).er.md ∧ r.er.md ≤ (TN.node p c l m r v b).er.md := by simp only [TN.er, Tr.md]; omega
    have hx1 : xs.length + 1 ≤ 4294967296 := by omega
    have HL := Lib.hid (ihl w pv qv xs ks hi.2.1 hb ho hB (by omega) (by omega))
    have HI := Lib.hid (And.intro hi (And.intro hb (And.intro ho hmd)))
    have HM := Lib.hid ihm
    have HR := Lib.hid ihr
    have e0 := keys_er c l.er m.er r.er v b xs ks
    have E0 := Lib.hid (show ks ++ (TN.node p c l m r v b).er.keys.map (xs ++ ·) = _ from e0)
    have HK := Lib.hid (And.intro hk hx)
    rw [E0.out]
    clear ihl ihm ihr hi hb ho hkl hmd hk hx e0 E0 p2 p3 p4
    show Calls _ _ #[_, .pointer (some ⟨p, 0, none⟩), _, _] _ _
    go_enter Try.func40, Try.ntmps40
    go_wp2_with fail
    refine HL.out.mono ?_
    rintro e w1 ⟨q1, rfl, C1⟩
    obtain ⟨hi, hb, ho, hmd⟩ := HI.out
    obtain ⟨hk, hx⟩ := HK.out
    have hi1 := C1.trie hb ho hi
    have hBw := C1.bl hB
    clear p0 p1 p5 pf
    obtain ⟨⟨p0, p1, p2, p3, p4, p5⟩, pf⟩ := cells_in hi1.1
    have hkl : (ks ++ l.er.keys.map (xs ++ ·)).length = ks.length + l.er.keys.length := by simp
    have HC1 := Lib.hid C1
    have HI1 := Lib.hid hi1
    clear C1 hi1 hi hb ho p1 p2 p3 p4
    cases b with
    | false =>
      have HC1' := Lib.hid (show CQ B w pv qv xs q1 ((ks ++ l.er.keys.map (xs ++ ·)) ++ (if false = true then [xs ++ [c]] else [])) w1 by simpa using HC1.out)
      go_wp2_with fail
      have hi3 := HI1.out
      obtain ⟨⟨s0, s1, s2, s3, s4, s5⟩, sf⟩ := cells_in hi3.1
      have hBs := HC1'.out.bl hB
      clear s1 s3 s4 s5 hi3
      refine wp_region_G (fun w' => w'.cell? ⟨p, 0, none⟩ = some (.int .u8 c.toNat) ∧ w'.cell? ⟨p, 2, none⟩ = some (.pointer m.ptr)) (fun _ => false) (by kernel_rfl) ?_
      have hS0 : (fun w' : World => w'.cell? ⟨p, 0, none⟩ = some (.int .u8 c.toNat) ∧ w'.cell? ⟨p, 2, none⟩ = some (.pointer m.ptr)) w1.drew := ⟨s0, s2⟩
      refine wpAnyG_take (i := 0) (v := ?_) rfl rfl (by kernel_rfl) (by kernel_rfl) (by kernel_rfl) (by kernel_rfl) (fun _ _ _ h => h) (by rfl) ?_ hS0 ?_
      rotate_left 1
      · intro w' hSw; (try dsimp only at hSw); go_simp; (try with_reducible rfl)
      simp only [Act.put, List.setIfInBounds_toArray, List.set_cons_zero, List.set_cons_succ]
      refine wpAnyG_take (i := 1) (v := ?_) rfl rfl (by kernel_rfl) (by kernel_rfl) (by kernel_rfl) (by kernel_rfl) (fun _ _ _ h => h) (by rfl) ?_ hS0 ?_
      rotate_left 1
      · intro w' hSw; (try dsimp only at hSw); go_simp; (try with_reducible rfl)
      simp only [Act.put, List.setIfInBounds_toArray, List.set_cons_zero, List.set_cons_succ]
      refine wpAnyG_take (i := 2) (v := ?_) rfl rfl (by kernel_rfl) (by kernel_rfl) (by kernel_rfl) (by kernel_rfl) (fun _ _ _ h => h) (by rfl) ?_ hS0 ?_
      rotate_left 1
      · intro w' hSw; (try dsimp only at hSw); go_simp; (try with_reducible rfl)
      simp only [Act.put, List.setIfInBounds_toArray, List.set_cons_zero, List.set_cons_succ]
      refine wpAnyG_take (i := 3) (v := ?_) rfl rfl (by kernel_rfl) (by kernel_rfl) (by kernel_rfl) (by kernel_rfl) (fun _ _ _ h => h) (by rfl) ?_ hS0 ?_
      rotate_left 1
      · intro w' hSw; (try dsimp only at hSw); go_simp; (try with_reducible rfl)
      simp only [Act.put, List.setIfInBounds_toArray, List.set_cons_zero, List.set_cons_succ]
      refine wpAnyG_take (i := 4) (v := ?_) rfl rfl (by kernel_rfl) (by kernel_rfl) (by kernel_rfl) (by kernel_rfl) (fun _ _ _ h => h) (by rfl) ?_ hS0 ?_
      rotate_left 1
      · intro w' hSw; (try dsimp only at hSw); go_simp; (try with_reducible rfl)
      simp only [Act.put, List.setIfInBounds_toArray, List.set_cons_zero, List.set_cons_succ]
      refine wpAnyG_take (i := 5) (v := ?_) rfl rfl (by kernel_rfl) (by kernel_rfl) (by kernel_rfl) (by kernel_rfl) (fun _ _ _ h => h) (by rfl) ?_ hS0 ?_
      rotate_left 1
      · intro w' hSw; (try dsimp only at hSw); go_simp; (try with_reducible rfl)
      simp only [Act.put, List.setIfInBounds_toArray, List.set_cons_zero, List.set_cons_succ]
      refine wpAnyG_take (i := 6) (v := ?_) rfl rfl (by kernel_rfl) (by kernel_rfl) (by kernel_rfl) (by kernel_rfl) (fun _ _ _ h => h) (by rfl) ?_ hS0 ?_
      rotate_left 1
      · intro w' hSw; (try dsimp only at hSw); go_simp; (try with_reducible rfl)
      simp only [Act.put, List.setIfInBounds_toArray, List.set_cons_zero, List.set_cons_succ]
      refine wpAnyG_take (i := 7) (v := ?_) rfl rfl (by kernel_rfl) (by kernel_rfl) (by kernel_rfl) (by kernel_rfl) (fun _ _ _ h => h) (by rfl) ?_ hS0 ?_
      rotate_left 1
      · intro w' hSw; (try dsimp only at hSw); go_simp; (try with_reducible rfl)
      simp only [Act.put, List.setIfInBounds_toArray, List.set_cons_zero, List.set_cons_succ]
      refine wpAnyG_take (i := 8) (v := ?_) rfl rfl (by kernel_rfl) (by kernel_rfl) (by kernel_rfl) (by kernel_rfl) (fun _ _ _ h => h) (by rfl) ?_ hS0 ?_
      rotate_left 1
      · intro w' hSw; (try dsimp only at hSw); go_simp; (try with_reducible rfl)
      simp only [Act.put, List.setIfInBounds_toArray, List.set_cons_zero, List.set_cons_succ]
      refine wpAnyG_take (i := 9) (v := ?_) rfl rfl (by kernel_rfl) (by kernel_rfl) (by kernel_rfl) (by kernel_rfl) (fun _ _ _ h => h) (by rfl) ?_ hS0 ?_
      rotate_left 1
      · intro w' hSw; (try dsimp only at hSw); go_simp; (try with_reducible rfl)
      simp only [Act.put, List.setIfInBounds_toArray, List.set_cons_zero, List.set_cons_succ]
      refine wpAnyG_take (i := 12) (v := ?_) rfl rfl (by kernel_rfl) (by kernel_rfl) (by kernel_rfl) (by kernel_rfl) (fun _ _ _ h => h) (by rfl) ?_ hS0 ?_
      rotate_left 1
      · intro w' hSw; (try dsimp only at hSw); go_simp; (try with_reducible rfl)
      simp only [Act.put, List.setIfInBounds_toArray, List.set_cons_zero, List.set_cons_succ]
      have HCA := Lib.hid ((HC1'.out.alloc (Obj.cells #[.int .u8 c.toNat] 5)).drewN 1)
      have HIA := Lib.hid ((HC1'.out.trie' HI1.out (Obj.cells #[.int .u8 c.toNat] 5)).drewN 1)
      obtain ⟨WA, hWA⟩ : ∃ WA, WA = (w1.alloc (Obj.cells #[.int .u8 c.toNat] 5)).drewN 1 := ⟨_, rfl⟩
      have HSZ := Lib.hid (show w1.heap.size + 1 = WA.heap.size by rw [hWA]; simp)
      have HNC := Lib.hid (show WA.cell? ⟨w1.heap.size, 0, none⟩ = some (byteV c) by rw [hWA]; exact cell_new1 w1 (.int .u8 c.toNat) 5)
      rw [← hWA] at HCA HIA
      have HWA := Lib.hid hWA
      clear hWA
      obtain ⟨⟨a0, _, a2, _, _, _⟩, _⟩ := cells_in HIA.out.1
      refine wpAnyG_ready (rs := [10]) (by kernel_rfl) (by simp) (AllReadyG.cons rfl (fun K10 hK10 => ?_) AllReadyG.nil)
      go_simp
      change K10 _ ((w1.alloc (Obj.cells #[.int .u8 c.toNat] 5)).drewN 1)
      rw [← HWA.out]
      refine hK10.out _ _ (fun _ => ⟨a0, a2⟩) ?_
      refine wpAnyG_ready (rs := [11]) (by kernel_rfl) (by simp) (AllReadyG.cons rfl (fun K11 hK11 => ?_) AllReadyG.nil)
      refine step_append_byte rfl (.tmp 40) (.tmp 45) 74 rfl B 5 i5 _ Try.underlying74 hi5 hz5 hs5 hy5 rfl pv xs (by rfl) (by with_reducible exact HCA.out.br) ⟨w1.heap.size, 0, none⟩ 1 c (by rfl) (by with_reducible exact HNC.out) rfl (by omega) (by have := HCA.out.bl hB; exact this) ?_
      intro v1 W2 b1 b2 b3 b4 b5
      have HCW := Lib.hid (HCA.out.byte b1 b2 b3 b4 b5)
      have HI2 := Lib.hid (HIA.out.fr (Fr.of_grown b3) (fun x hx hm => not_byte HCA.out.br HIA.out x hx (mem_ob.1 hm)))
      clear b1 b2 b3 b4 b5 a0 a2
      obtain ⟨⟨a0, _, a2, _, _, _⟩, _⟩ := cells_in HI2.out.1
      refine hK11.out _ _ (fun _ => ⟨a0, a2⟩) ?_
      simp only [Act.put, List.setIfInBounds_toArray, List.set_cons_zero, List.set_cons_succ]
      refine wpAnyG_ready (rs := [13]) (by kernel_rfl) (by simp) (AllReadyG.cons rfl (fun K13 hK13 => ?_) AllReadyG.nil)
      refine step_call rfl 40 #[tb, .pointer m.ptr, v1, q1] (by go_simp) ((HM.out W2 v1 q1 (xs ++ [c]) ((ks ++ l.er.keys.map (xs ++ ·)) ++ (if false = true then [xs ++ [c]] else [])) HI2.out.2.2.1 HCW.out.br HCW.out.cq.own (HCW.out.cq.bl hB) (by rw [List.length_append, List.length_singleton]; have := HI.out.2.2.2.2.1; have := HK.out.2; omega) (by have := HK.out.1; simp at this ⊢; omega)).mono ?_)
      rintro e W3 ⟨q3, rfl, C3⟩
      refine ⟨_, rfl, ?_⟩
      have HC3 := Lib.hid (HCW.out.mid C3)
      have HI3 := Lib.hid (C3.trie HCW.out.br HCW.out.cq.own HI2.out)
      clear C3 a0 a2
      obtain ⟨⟨a0, _, a2, a3, _, _⟩, _⟩ := cells_in HI3.out.1
      refine hK13.out _ _ (fun _ => ⟨a0, a2⟩) ?_
      simp only [Act.put, List.setIfInBounds_toArray, List.set_cons_zero, List.set_cons_succ]
      refine wpAnyG_ready (rs := [14]) (by kernel_rfl) (by simp) (AllReadyG.cons rfl (fun K14 hK14 => ?_) AllReadyG.nil)
      go_simp
      refine hK14.out _ _ (fun _ => ⟨a0, a2⟩) ?_
      refine wpAnyG_done (by kernel_rfl) ?_ _
      have HF := Lib.hid (HR.out W3 pv q3 xs _ HI3.out.2.2.2 HC3.out.br HC3.out.own (HC3.out.bl hB) (by have := HI.out.2.2.2.2.2; have := HK.out.2; omega) (by have := HK.out.1; simp at this ⊢; omega))
      go_wp2_with fail
      refine HF.out.mono ?_
      rintro e W4 ⟨q4, rfl, C4⟩
      have HC4 := Lib.hid (HC3.out.comp C4)
      clear C4
      go_wp2
      go_ret
      exact ⟨_, rfl, by simpa using HC4.out⟩
    | true =>
      have HCA0 := Lib.hid (HC1.out.alloc (Obj.cells #[.int .u8 c.toNat] 5))
      have HIA0 := Lib.hid (HC1.out.trie' HI1.out (Obj.cells #[.int .u8 c.toNat] 5))
      have HNC0 := Lib.hid (show (w1.alloc (Obj.cells #[.int .u8 c.toNat] 5)).cell? ⟨w1.heap.size, 0, none⟩ = some (byteV c) from cell_new1 w1 (.int .u8 c.toNat) 5)
      have hkb : (ks ++ l.er.keys.map (xs ++ ·)).length ≤ 4294967296 := by rw [hkl]; omega
      go_wp2_with (first | (at_builtin; refine wpList_append_byte rfl (.tmp 25) (.tmp 30) 74 rfl B 5 i5 _ Try.underlying74 hi5 hz5 hs5 hy5 rfl pv xs (by rfl) (by with_reducible exact HCA0.out.br) ⟨w1.heap.size, 0, none⟩ 1 c (by rfl) (by with_reducible exact HNC0.out) rfl (by omega) (by have := HCA0.out.bl hB; exact this) ?_; intro v0 W0 b1 b2 b3 b4 b5; have HCW0 := Lib.hid ((HCA0.out.byte b1 b2 b3 b4 b5).alloc (Obj.cells #[str (xs ++ [c])] 9)); have HIW0 := Lib.hid (HIA0.out.fr (Fr.of_grown b3) (fun x hx hm => not_byte HCA0.out.br HIA0.out x hx (mem_ob.1 hm))); have hcv := run_bytes_text (P := Try.prog) W0 (src := 74) (dst := 9) Try.underlying74 Try.underlying5 Try.underlying9 b1; have HNS := Lib.hid (cell_new1 W0 (str (xs ++ [c])) 9); have hsz0 : (W0.alloc (Obj.cells #[str (xs ++ [c])] 9)).heap.size = W0.heap.size + 1 := (by simp); have HSS := Lib.hid hsz0; clear hsz0 b1 b2 b3 b4 b5) | (at_builtin; refine wpList_append_lies _ rfl (.tmp 24) (.tmp 33) 29 rfl B 9 i9 _ 1 16 Try.underlying29 hi9 hz9 hs9 hy9 rfl (by omega) q1 (ks ++ l.er.keys.map (xs ++ ·)).length ((ks ++ l.er.keys.map (xs ++ ·)).map str) (by rfl) (by with_reducible exact HCW0.out.cq.own) ⟨W0.heap.size, 0, none⟩ 1 1 [str (xs ++ [c])] (by rfl) (by rfl) (news1 (by with_reducible exact HNS.out)) (fun _ h => by rw [List.mem_singleton.1 h]; rfl) (by omega) (by unfold maxLen; omega) (by omega) (by have := HCW0.out.cq.bl hB; exact this) _ (by rfl) ?_; intro g cap W5 o5 g5 at5 lt5))
      have hkq : (ks ++ l.er.keys.map (xs ++ ·)).length + 1 = ks.length + l.er.keys.length + 1 := by rw [hkl]
      have hwd := HCW0.out.word o5 g5 (at5.imp id (fun e => e.trans (by simp)))
      rw [hkq] at hwd
      have HC5 := Lib.hid (show CQ B w pv qv xs (.slice (some ⟨g, 0, none⟩) (ks.length + l.er.keys.length + 1) cap) ((ks ++ l.er.keys.map (xs ++ ·)) ++ (if true = true then [xs ++ [c]] else [])) W5 by simpa using hwd)
      have HI5 := Lib.hid ((HIW0.out.fr (Fr.alloc [] W0 (Obj.cells #[str (xs ++ [c])] 9)) (fun _ _ h => by cases h)).fr (Fr.of_grown g5) (fun x hx hm => not_text HCW0.out.cq.own (HIW0.out.fr (Fr.alloc [] W0 (Obj.cells #[str (xs ++ [c])] 9)) (fun _ _ h => by cases h)) x hx (mem_ob.1 hm)))
      clear hkq hwd o5 g5 at5 lt5 hcv
      go_wp2_with fail
      have hi3 := HI5.out
      obtain ⟨⟨s0, s1, s2, s3, s4, s5⟩, sf⟩ := cells_in hi3.1
      have hBs := HC5.out.bl hB
      clear s1 s3 s4 s5 hi3
      refine wp_region_G (fun w' => w'.cell? ⟨p, 0, none⟩ = some (.int .u8 c.toNat) ∧ w'.cell? ⟨p, 2, none⟩ = some (.pointer m.ptr)) (fun _ => false) (by kernel_rfl) ?_
      have hS0 : (fun w' : World => w'.cell? ⟨p, 0, none⟩ = some (.int .u8 c.toNat) ∧ w'.cell? ⟨p, 2, none⟩ = some (.pointer m.ptr)) W5.drew := ⟨s0, s2⟩
      refine wpAnyG_take (i := 0) (v := ?_) rfl rfl (by kernel_rfl) (by kernel_rfl) (by kernel_rfl) (by kernel_rfl) (fun _ _ _ h => h) (by rfl) ?_ hS0 ?_
      rotate_left 1
      · intro w' hSw; (try dsimp only at hSw); go_simp; (try with_reducible rfl)
      simp only [Act.put, List.setIfInBounds_toArray, List.set_cons_zero, List.set_cons_succ]
      refine wpAnyG_take (i := 1) (v := ?_) rfl rfl (by kernel_rfl) (by kernel_rfl) (by kernel_rfl) (by kernel_rfl) (fun _ _ _ h => h) (by rfl) ?_ hS0 ?_
      rotate_left 1
      · intro w' hSw; (try dsimp only at hSw); go_simp; (try with_reducible rfl)
      simp only [Act.put, List.setIfInBounds_toArray, List.set_cons_zero, List.set_cons_succ]
      refine wpAnyG_take (i := 2) (v := ?_) rfl rfl (by kernel_rfl) (by kernel_rfl) (by kernel_rfl) (by kernel_rfl) (fun _ _ _ h => h) (by rfl) ?_ hS0 ?_
      rotate_left 1
      · intro w' hSw; (try dsimp only at hSw); go_simp; (try with_reducible rfl)
      simp only [Act.put, List.setIfInBounds_toArray, List.set_cons_zero, List.set_cons_succ]
      refine wpAnyG_take (i := 3) (v := ?_) rfl rfl (by kernel_rfl) (by kernel_rfl) (by kernel_rfl) (by kernel_rfl) (fun _ _ _ h => h) (by rfl) ?_ hS0 ?_
      rotate_left 1
      · intro w' hSw; (try dsimp only at hSw); go_simp; (try with_reducible rfl)
      simp only [Act.put, List.setIfInBounds_toArray, List.set_cons_zero, List.set_cons_succ]
      refine wpAnyG_take (i := 4) (v := ?_) rfl rfl (by kernel_rfl) (by kernel_rfl) (by kernel_rfl) (by kernel_rfl) (fun _ _ _ h => h) (by rfl) ?_ hS0 ?_
      rotate_left 1
      · intro w' hSw; (try dsimp only at hSw); go_simp; (try with_reducible rfl)
      simp only [Act.put, List.setIfInBounds_toArray, List.set_cons_zero, List.set_cons_succ]
      refine wpAnyG_take (i := 5) (v := ?_) rfl rfl (by kernel_rfl) (by kernel_rfl) (by kernel_rfl) (by kernel_rfl) (fun _ _ _ h => h) (by rfl) ?_ hS0 ?_
      rotate_left 1
      · intro w' hSw; (try dsimp only at hSw); go_simp; (try with_reducible rfl)
      simp only [Act.put, List.setIfInBounds_toArray, List.set_cons_zero, List.set_cons_succ]
      refine wpAnyG_take (i := 6) (v := ?_) rfl rfl (by kernel_rfl) (by kernel_rfl) (by kernel_rfl) (by kernel_rfl) (fun _ _ _ h => h) (by rfl) ?_ hS0 ?_
      rotate_left 1
      · intro w' hSw; (try dsimp only at hSw); go_simp; (try with_reducible rfl)
      simp only [Act.put, List.setIfInBounds_toArray, List.set_cons_zero, List.set_cons_succ]
      refine wpAnyG_take (i := 7) (v := ?_) rfl rfl (by kernel_rfl) (by kernel_rfl) (by kernel_rfl) (by kernel_rfl) (fun _ _ _ h => h) (by rfl) ?_ hS0 ?_
      rotate_left 1
      · intro w' hSw; (try dsimp only at hSw); go_simp; (try with_reducible rfl)
      simp only [Act.put, List.setIfInBounds_toArray, List.set_cons_zero, List.set_cons_succ]
      refine wpAnyG_take (i := 8) (v := ?_) rfl rfl (by kernel_rfl) (by kernel_rfl) (by kernel_rfl) (by kernel_rfl) (fun _ _ _ h => h) (by rfl) ?_ hS0 ?_
      rotate_left 1
      · intro w' hSw; (try dsimp only at hSw); go_simp; (try with_reducible rfl)
      simp only [Act.put, List.setIfInBounds_toArray, List.set_cons_zero, List.set_cons_succ]
      refine wpAnyG_take (i := 9) (v := ?_) rfl rfl (by kernel_rfl) (by kernel_rfl) (by kernel_rfl) (by kernel_rfl) (fun _ _ _ h => h) (by rfl) ?_ hS0 ?_
      rotate_left 1
      · intro w' hSw; (try dsimp only at hSw); go_simp; (try with_reducible rfl)
      simp only [Act.put, List.setIfInBounds_toArray, List.set_cons_zero, List.set_cons_succ]
      refine wpAnyG_take (i := 12) (v := ?_) rfl rfl (by kernel_rfl) (by kernel_rfl) (by kernel_rfl) (by kernel_rfl) (fun _ _ _ h => h) (by rfl) ?_ hS0 ?_
      rotate_left 1
      · intro w' hSw; (try dsimp only at hSw); go_simp; (try with_reducible rfl)
      simp only [Act.put, List.setIfInBounds_toArray, List.set_cons_zero, List.set_cons_succ]
      have HCA := Lib.hid ((HC5.out.alloc (Obj.cells #[.int .u8 c.toNat] 5)).drewN 1)
      have HIA := Lib.hid ((HC5.out.trie' HI5.out (Obj.cells #[.int .u8 c.toNat] 5)).drewN 1)
      obtain ⟨WA, hWA⟩ : ∃ WA, WA = (W5.alloc (Obj.cells #[.int .u8 c.toNat] 5)).drewN 1 := ⟨_, rfl⟩
      have HSZ := Lib.hid (show W5.heap.size + 1 = WA.heap.size by rw [hWA]; simp)
      have HNC := Lib.hid (show WA.cell? ⟨W5.heap.size, 0, none⟩ = some (byteV c) by rw [hWA]; exact cell_new1 W5 (.int .u8 c.toNat) 5)
      rw [← hWA] at HCA HIA
      have HWA := Lib.hid hWA
      clear hWA
      obtain ⟨⟨a0, _, a2, _, _, _⟩, _⟩ := cells_in HIA.out.1
      refine wpAnyG_ready (rs := [10]) (by kernel_rfl) (by simp) (AllReadyG.cons rfl (fun K10 hK10 => ?_) AllReadyG.nil)
      go_simp
      change K10 _ ((W5.alloc (Obj.cells #[.int .u8 c.toNat] 5)).drewN 1)
      rw [← HWA.out]
      refine hK10.out _ _ (fun _ => ⟨a0, a2⟩) ?_
      refine wpAnyG_ready (rs := [11]) (by kernel_rfl) (by simp) (AllReadyG.cons rfl (fun K11 hK11 => ?_) AllReadyG.nil)
      refine step_append_byte rfl (.tmp 40) (.tmp 45) 74 rfl B 5 i5 _ Try.underlying74 hi5 hz5 hs5 hy5 rfl pv xs (by rfl) (by with_reducible exact HCA.out.br) ⟨W5.heap.size, 0, none⟩ 1 c (by rfl) (by with_reducible exact HNC.out) rfl (by omega) (by have := HCA.out.bl hB; exact this) ?_
      intro v1 W2 b1 b2 b3 b4 b5
      have HCW := Lib.hid (HCA.out.byte b1 b2 b3 b4 b5)
      have HI2 := Lib.hid (HIA.out.fr (Fr.of_grown b3) (fun x hx hm => not_byte HCA.out.br HIA.out x hx (mem_ob.1 hm)))
      clear b1 b2 b3 b4 b5 a0 a2
      obtain ⟨⟨a0, _, a2, _, _, _⟩, _⟩ := cells_in HI2.out.1
      refine hK11.out _ _ (fun _ => ⟨a0, a2⟩) ?_
      simp only [Act.put, List.setIfInBounds_toArray, List.set_cons_zero, List.set_cons_succ]
      refine wpAnyG_ready (rs := [13]) (by kernel_rfl) (by simp) (AllReadyG.cons rfl (fun K13 hK13 => ?_) AllReadyG.nil)
      refine step_call rfl 40 #[tb, .pointer m.ptr, v1, (.slice (some ⟨g, 0, none⟩) (ks.length + l.er.keys.length + 1) cap)] (by go_simp) ((HM.out W2 v1 (.slice (some ⟨g, 0, none⟩) (ks.length + l.er.keys.length + 1) cap) (xs ++ [c]) ((ks ++ l.er.keys.map (xs ++ ·)) ++ (if true = true then [xs ++ [c]] else [])) HI2.out.2.2.1 HCW.out.br HCW.out.cq.own (HCW.out.cq.bl hB) (by rw [List.length_append, List.length_singleton]; have := HI.out.2.2.2.2.1; have := HK.out.2; omega) (by have := HK.out.1; simp at this ⊢; omega)).mono ?_)
      rintro e W3 ⟨q3, rfl, C3⟩
      refine ⟨_, rfl, ?_⟩
      have HC3 := Lib.hid (HCW.out.mid C3)
      have HI3 := Lib.hid (C3.trie HCW.out.br HCW.out.cq.own HI2.out)
      clear C3 a0 a2
      obtain ⟨⟨a0, _, a2, a3, _, _⟩, _⟩ := cells_in HI3.out.1
      refine hK13.out _ _ (fun _ => ⟨a0, a2⟩) ?_
      simp only [Act.put, List.setIfInBounds_toArray, List.set_cons_zero, List.set_cons_succ]
      refine wpAnyG_ready (rs := [14]) (by kernel_rfl) (by simp) (AllReadyG.cons rfl (fun K14 hK14 => ?_) AllReadyG.nil)
      go_simp
      refine hK14.out _ _ (fun _ => ⟨a0, a2⟩) ?_
      refine wpAnyG_done (by kernel_rfl) ?_ _
      have HF := Lib.hid (HR.out W3 pv q3 xs _ HI3.out.2.2.2 HC3.out.br HC3.out.own (HC3.out.bl hB) (by have := HI.out.2.2.2.2.2; have := HK.out.2; omega) (by have := HK.out.1; simp at this ⊢; omega))
      go_wp2_with fail
      refine HF.out.mono ?_
      rintro e W4 ⟨q4, rfl, C4⟩
      have HC4 := Lib.hid (HC3.out.comp C4)
      clear C4
      go_wp2
      go_ret
      exact ⟨_, rfl, by simpa using HC4.out⟩
end Go.Proofs.Ytlpcddmcddenfaa.Kp
