/- tries in memory: Get, Contains, Size, Put, Remove, New. -/
import Derived.Test.YtlpcddmcddenfaaTriCo
namespace Go.Proofs.Ytlpcddmcddenfaa.Kp
open Go.RowKit Tri

/-- a trie that lies in memory, from block B on. -/
structure TT (w : World) (B tb : Nat) (s : St) (t : TN) : Prop where
  blk : Blk w tb #[.int .i64 s.n, .pointer t.ptr] 64
  inn : t.In w
  nd : t.ids.Nodup
  er : t.er = s.t
  lo : B ≤ tb ∧ ∀ x ∈ t.ids, B ≤ x
theorem TN.In.type {w : World} : ∀ {t : TN}, t.In w → ∀ x ∈ t.ids, ∃ cs, Blk w x cs 72
  | .nil, _, _, h => by cases h
  | .node p c l m r v b, ⟨h1, h2, h3, h4⟩, x, hx => by
    rcases mem_ids.1 hx with rfl | hx | hx | hx
    · exact ⟨_, h1⟩
    · exact TN.In.type h2 x hx
    · exact TN.In.type h3 x hx
    · exact TN.In.type h4 x hx
theorem TT.htb {w : World} {B tb : Nat} {s : St} {t : TN} (h : TT w B tb s t) : tb ∉ t.ids := fun hx => by
  obtain ⟨cs, hb⟩ := h.inn.type tb hx
  have := h.blk
  unfold Blk at hb this
  rw [hb] at this
  simp at this
theorem TT.fr {w w' : World} {B tb : Nat} {s : St} {t : TN} {S : List Nat} (h : TT w B tb s t) (hf : Fr S w w') (h1 : tb ∉ S) (h2 : ∀ x ∈ t.ids, x ∉ S) : TT w' B tb s t :=
  ⟨h.blk.fr hf h1, h.inn.fr hf h2, h.nd, h.er, h.lo⟩
theorem TT.below {w w' : World} {B tb : Nat} {s : St} {t : TN} (h : TT w B tb s t) (hb : Below w.heap.size w w') : TT w' B tb s t := h.fr (Fr.of_below (S := []) hb) (by simp) (fun _ _ h => by cases h)
theorem TT.drewN {w : World} {B tb : Nat} {s : St} {t : TN} (h : TT w B tb s t) (n : Nat) : TT (w.drewN n) B tb s t := h.below (Below.drewN w n)
/-- behind a step. -/
structure TS (w : World) (B tb : Nat) (t : TN) (s' : St) (t' : TN) (w' : World) : Prop where
  tt : TT w' B tb s' t'
  fr : Fr (tb :: t.ids) w w'
  ids : ∀ i ∈ t'.ids, i ∈ t.ids ∨ w.heap.size ≤ i
theorem look_is (t : TN) (K : Txt) : t.er.look K = (t.get K).er.val := by unfold Tr.look; rw [TN.get_er]
theorem size_str (K : Txt) : (ByteArray.mk K.toArray).size = K.length := str_len K
set_option maxHeartbeats 1000000 in
theorem Get_calls (w : World) (B tb : Nat) (s : St) (t : TN) (K : Txt) (H : TT w B tb s t) (hK : K.length ≤ 2147483647) :
    Calls Try.prog 27 #[.pointer (some ⟨tb, 0, none⟩), str K] w fun e w' => e = .returned (.tuple #[.int .i64 (getW K s).1, .bool (getW K s).2]) ∧ w = w' := by
  have hsz := size_str K
  have c1 : w.cell? ⟨tb, 1, none⟩ = some (.pointer t.ptr) := H.blk.cell 1
  by_cases h0 : K = []
  · have e : getW K s = (0, false) := by unfold getW; rw [h0, look_nil]
    rw [e]
    have h1 : K.length = 0 := by rw [h0]; rfl
    clear e h0
    go_enter Try.func27, Try.ntmps27
    go_wp2
    go_ret2
    exact ⟨rfl, rfl⟩
  · have h1 : 0 < K.length := List.length_pos_iff.2 h0
    have h2 : ¬ K.length = 0 := by omega
    have h3 : ¬ (K.length : Int) = 0 := by omega
    have hl : s.t.look K = (t.get K).er.val := by rw [← H.er, look_is]
    have HC := Lib.hid (get_calls (.pointer (some ⟨tb, 0, none⟩)) K hK h0 t w H.inn)
    have HI := Lib.hid (TN.get_in K H.inn)
    obtain ⟨g, hg⟩ : ∃ g, g = getW K s := ⟨_, rfl⟩
    have HG := Lib.hid (And.intro hl hg)
    rw [← hg]
    clear hl hg H h0
    obtain ⟨u, hu⟩ : ∃ u, u = t.get K := ⟨_, rfl⟩
    rw [← hu] at HC HI HG
    clear hu
    obtain ⟨q, hq⟩ : ∃ q, q = u.ptr := ⟨_, rfl⟩
    rw [← hq] at HC
    have HQ := Lib.hid hq
    clear hq
    go_enter Try.func27, Try.ntmps27
    go_wp2_with fail
    refine HC.out.mono ?_
    rintro e w1 ⟨rfl, rfl⟩
    cases u with
    | nil =>
      have e : g = (0, false) := by have := HG.out.2; unfold getW at this; rw [HG.out.1] at this; exact this
      subst e
      obtain rfl : q = none := HQ.out
      go_wp2
      go_ret2
      exact ⟨rfl, rfl⟩
    | node p c l m r v b =>
      obtain ⟨⟨p0, p1, p2, p3, p4, p5⟩, pf⟩ := cells_in HI.out.1
      obtain rfl : q = some ⟨p, 0, none⟩ := HQ.out
      cases b with
      | false =>
        have e : g = (0, false) := by have := HG.out.2; unfold getW at this; rw [HG.out.1] at this; exact this
        subst e
        go_wp2
        go_ret2
        exact ⟨rfl, rfl⟩
      | true =>
        have e : g = (v, true) := by have := HG.out.2; unfold getW at this; rw [HG.out.1] at this; exact this
        subst e
        go_wp2
        go_ret2
        exact ⟨rfl, rfl⟩
set_option maxHeartbeats 1000000 in
theorem Contains_calls (w : World) (B tb : Nat) (s : St) (t : TN) (K : Txt) (H : TT w B tb s t) (hK : K.length ≤ 2147483647) :
    Calls Try.prog 28 #[.pointer (some ⟨tb, 0, none⟩), str K] w fun e w' => e = .returned (.bool (s.t.look K).isSome) ∧ ∃ n, w' = w.drewN n := by
  have hsz := size_str K
  by_cases h0 : K = []
  · have e : (s.t.look K).isSome = false := by rw [h0, look_nil]; rfl
    rw [e]
    have h1 : K.length = 0 := by rw [h0]; rfl
    clear e h0
    go_enter Try.func28, Try.ntmps28
    go_wp2
    go_ret
    exact ⟨rfl, 0, rfl⟩
  · have h1 : 0 < K.length := List.length_pos_iff.2 h0
    have h2 : ¬ K.length = 0 := by omega
    have h3 : ¬ (K.length : Int) = 0 := by omega
    have e : (s.t.look K).isSome = (getW K s).2 := by unfold getW; cases s.t.look K <;> rfl
    rw [e]
    have HC := Lib.hid (fun n => Get_calls (w.drewN n) B tb s t K (H.drewN n) hK)
    clear e H h0
    go_enter Try.func28, Try.ntmps28
    go_wp2_with fail
    refine (HC.out 0).mono ?_
    rintro e w1 ⟨rfl, rfl⟩
    go_wp2
    go_ret
    exact ⟨rfl, _, rfl⟩
theorem Size_calls (w : World) (B tb : Nat) (s : St) (t : TN) (H : TT w B tb s t) :
    Calls Try.prog 32 #[.pointer (some ⟨tb, 0, none⟩)] w fun e w' => e = .returned (.int .i64 s.n) ∧ w = w' := by
  have c0 : w.cell? ⟨tb, 0, none⟩ = some (.int .i64 s.n) := H.blk.cell 0
  clear H
  go_enter Try.func32, Try.ntmps32
  go_wp2
  go_ret
  exact ⟨rfl, rfl⟩
theorem New_calls (w : World) :
    Calls Try.prog 21 #[] w fun e w' => e = .returned (.pointer (some ⟨w.heap.size, 0, none⟩)) ∧ TT w' w.heap.size w.heap.size new0 .nil ∧ Below w.heap.size w w' := by
  go_enter Try.func21, Try.ntmps21
  go_wp2
  go_ret
  exact ⟨rfl, ⟨Blk.new _ _ _, trivial, by simp [TN.ids], rfl, Nat.le_refl _, fun _ h => by cases h⟩, (Below.refl _ w).alloc (Nat.le_refl _) _⟩
/-- what a step on the root makes of the trie. -/
theorem TT.root {w w1 w2 : World} {B tb : Nat} {s s' : St} {t t' : TN} (H : TT w B tb s t) (hB : B ≤ w.heap.size) (h : TStep w t s'.t w1 t') (hb : Blk w2 tb #[.int .i64 s'.n, .pointer t'.ptr] 64) (hf : Fr [tb] w1 w2) : TS w B tb t s' t' w2 := by
  have hn : tb ∉ t'.ids := fun hx => (h.ids tb hx).elim H.htb (fun e => by have := H.blk.lt; omega)
  refine ⟨⟨hb, h.inn.fr hf (fun x hx hm => ?_), h.nd, h.er, H.lo.1, fun x hx => (h.ids x hx).elim (H.lo.2 x) (fun e => by omega)⟩, h.fr.trans hf (fun x hx => .inl (List.mem_cons_of_mem _ hx)) (fun x hx => ?_), h.ids⟩
  · rw [List.mem_singleton] at hm; subst hm; exact hn hx
  · rw [List.mem_singleton] at hx; subst hx; exact .inl List.mem_cons_self
set_option maxHeartbeats 1000000 in
theorem Put_calls (w : World) (B tb : Nat) (s : St) (t : TN) (K : Txt) (v : Int) (H : TT w B tb s t) (hB : B ≤ w.heap.size) (hK : K.length ≤ 2147483647) (hn : -4294967296 ≤ s.n ∧ s.n ≤ 4294967296) :
    Calls Try.prog 25 #[.pointer (some ⟨tb, 0, none⟩), str K, .int .i64 v] w fun e w' => e = .returned (.tuple #[]) ∧ ∃ t', TS w B tb t (putW K v s) t' w' := by
  have hsz := size_str K
  by_cases h0 : K = []
  · have e : putW K v s = s := by unfold putW; rw [if_pos h0]
    rw [e]
    have h1 : K.length = 0 := by rw [h0]; rfl
    clear e h0
    have HH := Lib.hid H
    clear H
    go_enter Try.func25, Try.ntmps25
    go_wp2
    refine bodyPost_ret (results_none rfl _ _ _) rfl ?_
    exact ⟨rfl, t, HH.out, Fr.refl _ _, fun _ h => .inl h⟩
  · have h1 : 0 < K.length := List.length_pos_iff.2 h0
    have h2 : ¬ K.length = 0 := by omega
    have h3 : ¬ (K.length : Int) = 0 := by omega
    have HC := Lib.hid (Contains_calls w B tb s t K H hK)
    have HT := Lib.hid (fun (w1 : World) (h : t.In w1) => put_calls (.pointer (some ⟨tb, 0, none⟩)) K v hK h0 t w1 h H.nd)
    obtain ⟨u, hu⟩ : ∃ u, u = (s.t.look K).isSome := ⟨_, rfl⟩
    have hs : putW K v s = ⟨s.t.put K v, if u then s.n else s.n + 1⟩ := by unfold putW; rw [if_neg h0, ← hu]
    rw [hs]
    rw [← hu] at HC
    clear hs hu h0
    have HH := Lib.hid H
    clear H
    have hw1 : IntKind.i64.wrap (s.n + 1) = s.n + 1 := IntWalk.i64_in _ (by omega)
    go_enter Try.func25, Try.ntmps25
    go_wp2_with fail
    refine HC.out.mono ?_
    rintro e w1 ⟨rfl, n1, rfl⟩
    have H1 := Lib.hid (HH.out.drewN n1)
    cases u with
    | true =>
      have c0 : (w.drewN n1).cell? ⟨tb, 0, none⟩ = some (.int .i64 s.n) := H1.out.blk.cell 0
      have c1 : (w.drewN n1).cell? ⟨tb, 1, none⟩ = some (.pointer t.ptr) := H1.out.blk.cell 1
      have HT1 := Lib.hid (HT.out (w.drewN n1) H1.out.inn)
      obtain ⟨wd, hwd⟩ : ∃ wd, wd = w.drewN n1 := ⟨_, rfl⟩
      rw [← hwd] at c0 c1 HT1 H1
      rw [← hwd]
      have HF := Lib.hid (show Fr (tb :: t.ids) w wd by rw [hwd]; exact Fr.drewN _ _ _)
      have HZ := Lib.hid (show B ≤ wd.heap.size by rw [hwd]; exact hB)
      clear hwd
      go_wp2_with fail
      refine HT1.out.mono ?_
      rintro e w2 ⟨t', rfl, ht⟩
      have hb2 := H1.out.blk.fr ht.fr H1.out.htb
      have HT2 := Lib.hid ht
      have HB2 := Lib.hid hb2
      have fr2 := HB2.out.frozen
      have q1 := HB2.out.cell 1
      clear ht hb2
      go_wp2_with fail
      go_end0
      have hR := H1.out.root (s' := ⟨s.t.put K v, s.n⟩) HZ.out (by have h := HT2.out; rw [H1.out.er] at h; exact h) (HB2.out.set 1 (.pointer t'.ptr)) (Fr.setCell w2 tb 1 _ (by simp))
      exact ⟨rfl, t', hR.tt, HF.out.comp hR.fr, fun i hi => (hR.ids i hi).imp id (fun h => Nat.le_trans HF.out.size h)⟩
    | false =>
      have c0 : (w.drewN n1).cell? ⟨tb, 0, none⟩ = some (.int .i64 s.n) := H1.out.blk.cell 0
      have c1 : (w.drewN n1).cell? ⟨tb, 1, none⟩ = some (.pointer t.ptr) := H1.out.blk.cell 1
      have fr1 := H1.out.blk.frozen
      obtain ⟨wd, hwd⟩ : ∃ wd, wd = (w.drewN n1).setCell ⟨tb, 0, none⟩ (.int .i64 (s.n + 1)) := ⟨_, rfl⟩
      have hfd : Fr [tb] (w.drewN n1) wd := by rw [hwd]; exact Fr.setCell _ tb 0 _ (by simp)
      have hbd : Blk wd tb #[.int .i64 (s.n + 1), .pointer t.ptr] 64 := by rw [hwd]; exact H1.out.blk.set 0 _
      have hid : TT wd B tb ⟨s.t, s.n + 1⟩ t := ⟨hbd, H1.out.inn.fr hfd (fun x hx hm => by rw [List.mem_singleton] at hm; subst hm; exact H1.out.htb hx), H1.out.nd, H1.out.er, H1.out.lo⟩
      have HT1 := Lib.hid (HT.out wd hid.inn)
      have HI1 := Lib.hid hid
      have HF := Lib.hid (show Fr (tb :: t.ids) w wd from (Fr.drewN _ _ _).comp (hfd.mono fun x hx => .inl (by rw [List.mem_singleton] at hx; subst hx; exact List.mem_cons_self)))
      have d1 : wd.cell? ⟨tb, 1, none⟩ = some (.pointer t.ptr) := hbd.cell 1
      have HZ := Lib.hid (Nat.le_trans hB HF.out.size)
      have HWD := Lib.hid hwd
      clear hfd hbd hid hwd
      go_wp2_with (rw [← HWD.out])
      refine HT1.out.mono ?_
      rintro e w2 ⟨t', rfl, ht⟩
      have hb2 := HI1.out.blk.fr ht.fr HI1.out.htb
      have HT2 := Lib.hid ht
      have HB2 := Lib.hid hb2
      have fr2 := HB2.out.frozen
      have q1 := HB2.out.cell 1
      clear ht hb2
      go_wp2_with fail
      go_end0
      have hR := HI1.out.root (s' := ⟨s.t.put K v, s.n + 1⟩) HZ.out (by have h := HT2.out; rw [HI1.out.er] at h; exact h) (HB2.out.set 1 (.pointer t'.ptr)) (Fr.setCell w2 tb 1 _ (by simp))
      exact ⟨rfl, t', hR.tt, HF.out.comp hR.fr, fun i hi => (hR.ids i hi).imp id (fun h => Nat.le_trans HF.out.size h)⟩
end Go.Proofs.Ytlpcddmcddenfaa.Kp
