/- B-trees: search, whole. -/
import Derived.Test.YtjbelfbfhcmgeaaBtS
namespace Go.Proofs.Ytjbelfbfhcmgeaa.Kp
open Go.RowKit Bt

theorem findIdx_is {α : Type} (p : α → Bool) : ∀ (l : List α) (k : Nat), (∀ (i : Nat) e, i < k → l[i]? = some e → p e = false) → k ≤ l.length → (k = l.length ∨ ∃ e, l[k]? = some e ∧ p e = true) → l.findIdx p = k
  | [], k, _, hk, _ => by simp at hk; subst hk; rfl
  | a :: l, 0, _, _, h => by
    rcases h with h | ⟨e, he, hp⟩
    · simp at h
    · simp at he; subst he; simp [List.findIdx_cons, hp]
  | a :: l, k + 1, h1, hk, h => by
    have ha := h1 0 a (by omega) rfl
    have ih := findIdx_is p l k (fun i e hi he => h1 (i + 1) e (by omega) (by simpa using he)) (by simpa using hk) (by
      rcases h with h | ⟨e, he, hp⟩
      · left; simpa using h
      · right; exact ⟨e, by simpa using he, hp⟩)
    simp [List.findIdx_cons, ha, ih]
theorem cmp_zero {xs : List Int} {a b : Int} : cmpOf xs a b = 0 ↔ rankOf xs a = rankOf xs b := by
  unfold cmpOf
  split
  · constructor
    · intro h; omega
    · intro h; omega
  · split
    · constructor
      · intro h; omega
      · intro h; omega
    · constructor
      · intro _; omega
      · intro _; rfl
theorem cmp_lt {xs : List Int} {a b : Int} : cmpOf xs a b < 0 ↔ rankOf xs a < rankOf xs b := by
  unfold cmpOf
  split
  · constructor
    · intro _; assumption
    · intro _; omega
  · split
    · constructor
      · intro h; omega
      · intro h; omega
    · constructor
      · intro h; omega
      · intro h; omega
/-- the walk over a leaf finds what stands at the key's place. -/
theorem seek_get {xs : List Int} {key : Int} {rows : List Ent} {es : List LE} (he : rows.map (fun r => (r.key, r.val, r.valid)) = es) (hr : Rise (rankOf xs) es) : seekL xs key rows = getLf (rankOf xs) key es := by
  subst he
  obtain ⟨A, B, e, h1, h2, h3⟩ := jl_split (r := rankOf xs) key (rows.map (fun r => (r.key, r.val, r.valid)))
  obtain ⟨A', B', rfl, rfl, rfl⟩ := List.map_eq_append_iff.1 e
  unfold getLf
  rw [← h1, e, List.getElem?_append_right (Nat.le_refl _), Nat.sub_self]
  have hA : ∀ x ∈ A', eqAt xs key x = false := fun x hx => by
    have := h2 _ (List.mem_map_of_mem hx)
    simp only at this
    unfold eqAt
    rw [beq_eq_false_iff_ne]
    intro h
    rw [cmp_zero] at h
    omega
  unfold seekL
  rw [List.find?_append, List.find?_eq_none.2 (fun x hx => by rw [hA x hx]; simp)]
  cases B' with
  | nil => simp
  | cons y B' =>
    have hy := h3 (y.key, y.val, y.valid) rfl
    simp only at hy
    simp only [List.map_cons, List.getElem?_cons_zero]
    unfold Rise at hr
    rw [e, List.pairwise_append, List.map_cons, List.pairwise_cons] at hr
    by_cases c : rankOf xs y.key = rankOf xs key
    · have hq : eqAt xs key y = true := by unfold eqAt; rw [beq_iff_eq, cmp_zero]; omega
      rw [if_pos c, List.find?_cons, hq]; rfl
    · have hq : eqAt xs key y = false := by unfold eqAt; rw [beq_eq_false_iff_ne]; intro h; rw [cmp_zero] at h; omega
      rw [if_neg c, List.find?_cons, hq]
      rw [List.find?_eq_none.2 (fun x hx => by
        have := hr.2.1.1 _ (List.mem_map_of_mem hx)
        simp only at this
        have hx : eqAt xs key x = false := by unfold eqAt; rw [beq_eq_false_iff_ne]; intro h; rw [cmp_zero] at h; omega
        rw [hx]; simp)]
      rfl
/-- a search stops at a part of an inner node. -/
def goOn (xs : List Int) (key : Int) (rows : List Ent) (i : Nat) : Prop := ∃ e, rows[i + 1]? = some e ∧ ¬ cmpOf xs key e.key < 0
theorem ji_is {α : Type} {xs : List Int} {key : Int} {rows : List Ent} {ks : List (Int × α)} (hk : rows.map (fun r => r.key) = ks.map Prod.fst) {k : Nat} (hl : k < rows.length) (h1 : ∀ i, i < k → goOn xs key rows i)
    (h2 : k + 1 = rows.length ∨ ∃ e, rows[k + 1]? = some e ∧ cmpOf xs key e.key < 0) : ji (rankOf xs) key ks = k := by
  have hlen : ks.length = rows.length := by have := congrArg List.length hk; simpa using this.symm
  have hkey : ∀ (i : Nat) e, rows[i]? = some e → ∃ c, ks[i]? = some c ∧ c.1 = e.key := by
    intro i e he
    have h : (rows.map (fun r => r.key))[i]? = some e.key := by rw [List.getElem?_map, he]; rfl
    rw [hk, List.getElem?_map] at h
    cases hc : ks[i]? with
    | none => rw [hc] at h; cases h
    | some c => rw [hc] at h; simp at h; exact ⟨c, rfl, h⟩
  unfold ji
  have ht : ∀ i : Nat, ks.tail[i]? = ks[i + 1]? := fun i => by cases ks <;> simp
  refine findIdx_is _ _ k ?_ (by rw [List.length_tail]; omega) ?_
  · intro i c hi hc
    rw [ht] at hc
    obtain ⟨e, he, hn⟩ := h1 i hi
    obtain ⟨c', hc', e1⟩ := hkey _ _ he
    rw [hc] at hc'; cases hc'
    rw [cmp_lt] at hn
    simp only [e1]
    exact decide_eq_false hn
  · rcases h2 with h | ⟨e, he, hn⟩
    · left; rw [List.length_tail]; omega
    · right
      obtain ⟨c', hc', e1⟩ := hkey _ _ he
      rw [cmp_lt] at hn
      exact ⟨c', by rw [ht]; exact hc', by simp only [e1]; exact decide_eq_true hn⟩
/-- what a search of a tree tells. -/
def SearchOk (xs : List Int) (tb : Nat) (f : Value) (key : Int) (h : Nat) : Prop := ∀ (t : BN h) (w : World), SR w tb f xs → BN.In w h t → Bt.Wf (rankOf xs) h (BN.er h t) →
    Calls Try.prog 57 #[.pointer (some ⟨tb, 0, none⟩), .pointer (some ⟨BN.id h t, 0, none⟩), .int .i64 key, .int .i64 (h : Nat)] w fun e w' => e = .returned (.tuple #[.int .i64 (getE (rankOf xs) h (BN.er h t) key).1, .bool (getE (rankOf xs) h (BN.er h t) key).2]) ∧ Below w.heap.size w w'
theorem SearchOk.at_ {xs : List Int} {tb : Nat} {f : Value} {key : Int} {h : Nat} (H : SearchOk xs tb f key h) (t : BN h) (w : World) (h1 : SR w tb f xs) (h2 : BN.In w h t) (h3 : Bt.Wf (rankOf xs) h (BN.er h t)) :
    Calls Try.prog 57 #[.pointer (some ⟨tb, 0, none⟩), .pointer (some ⟨BN.id h t, 0, none⟩), .int .i64 key, .int .i64 (h : Nat)] w fun e w' => e = .returned (.tuple #[.int .i64 (getE (rankOf xs) h (BN.er h t) key).1, .bool (getE (rankOf xs) h (BN.er h t) key).2]) ∧ Below w.heap.size w w' := H t w h1 h2 h3
theorem search_zero (xs : List Int) (tb : Nat) (f : Value) (key : Int) : SearchOk xs tb f key 0 := by
  intro t w hs hin hw
  obtain ⟨rows, h1, h2⟩ : LeafIn w t := hin
  have e : getE (rankOf xs) 0 (BN.er 0 t) key = seekL xs key rows := (seek_get h2 hw.1).symm
  rw [e]
  exact search0_calls xs tb _ f rows key w hs h1
set_option maxRecDepth 100000 in
set_option maxHeartbeats 1600000 in
theorem search_succ (xs : List Int) (tb : Nat) (f : Value) (key : Int) (h : Nat) (ih : SearchOk xs tb f key h) (hh : h ≤ 1000000000000) (b : Nat) (ks : List (Int × BN h)) (w : World) (hs : SR w tb f xs) (hin : InnerIn w (BN.id h) (BN.In w h) (b, ks)) (hw : WfN (rankOf xs) (Bt.Wf (rankOf xs) h) (flat h) (ks.map fun e => (e.1, BN.er h e.2))) :
    Calls Try.prog 57 #[.pointer (some ⟨tb, 0, none⟩), .pointer (some ⟨b, 0, none⟩), .int .i64 key, .int .i64 ((h : Int) + 1)] w fun e w' => e = .returned (.tuple #[.int .i64 (getN (rankOf xs) (fun t => getE (rankOf xs) h t key) key (ks.map fun e => (e.1, BN.er h e.2))).1, .bool (getN (rankOf xs) (fun t => getE (rankOf xs) h t key) key (ks.map fun e => (e.1, BN.er h e.2))).2]) ∧ Below w.heap.size w w' := by
  have IH := Lib.hid ih
  clear ih
  obtain ⟨⟨rows, hn, hrows⟩, hkids⟩ := hin
  simp only at hn hrows hkids
  have hw' := hw
  have hlen : ks.length = rows.length := by have := congrArg List.length hrows; simpa using this.symm
  have hpos : 0 < rows.length := by have := hw'.1; simp at this; omega
  have hkeys : rows.map (fun r => r.key) = (ks.map fun e : Int × BN h => (e.1, BN.er h e.2)).map Prod.fst := by
    have := congrArg (List.map Prod.fst) hrows
    simp only [List.map_map] at this ⊢
    exact this
  have HK0 := Lib.hid hkeys
  have HR := Lib.hid hrows
  have HI := Lib.hid hkids
  have HWK := Lib.hid (show ∀ c ∈ ks, Bt.Wf (rankOf xs) h (BN.er h c.2) from fun c hc => (hw'.2.2.1 (c.1, BN.er h c.2) (List.mem_map_of_mem (f := fun e : Int × BN h => (e.1, BN.er h e.2)) hc)).1)
  obtain ⟨ps, W, hss⟩ := SrS.mk' hn
  have HSS := Lib.hid hss
  have HS := Lib.hid (hs.below hss.bel)
  have HN := Lib.hid (hn.below hss.bel hn.lt)
  have hl64 := hn.len
  have HB := Lib.hid hss.bel
  obtain ⟨sk, hsk⟩ : ∃ sk, sk = getN (rankOf xs) (fun t => getE (rankOf xs) h t key) key (ks.map fun e => (e.1, BN.er h e.2)) := ⟨_, rfl⟩
  rw [← hsk]
  have HSK := Lib.hid hsk
  have HL := Lib.hid hlen
  clear hss hs hn hsk hrows hkids hw hw' hlen hkeys
  have hz : ((h : Int) + 1 == 0) = false := by rw [beq_eq_false_iff_ne]; omega
  go_enter Try.func57, Try.ntmps57
  go_wp2_with (first
    | (refine wpList_load_mid rfl 85 (.tmp 16) rfl b 1 rfl ps _ HSS.out.load Try.underlying85 rfl HSS.out.i64 ?_)
    | (refine wpList_store_mid rfl 85 (.tmp 10) (.tmp 17) rfl w.heap.size 0 ps.toArray rfl rfl HSS.out.there HSS.out.i65 HSS.out.one ?_))
  rw [← HSS.out.eq]
  go_loopw [12] (fun j wx => ∃ k : Nat, k < rows.length ∧ j = .int .i64 (k : Nat) ∧ Hid ((∀ i, i < k → goOn xs key rows i) ∧ ∃ n, wx = W.drewN n)) (fun j _ => rows.length - (intOf j).toNat)
  case atStart => exact ⟨0, hpos, rfl, Lib.hid ⟨fun i hi => absurd hi (Nat.not_lt_zero _), 0, rfl⟩⟩
  case round =>
    obtain ⟨k, hk, rfl, HK⟩ := hrel
    obtain ⟨m, hm⟩ := HK.out.2
    have hS : SR wr tb f xs := by rw [hm]; exact HS.out.drewN m
    have cm : wr.cell? ⟨b, 0, none⟩ = some (.int .i64 (rows.length : Nat)) := by rw [hm]; exact HN.out.m
    have cl : wr.cell? ⟨tb, 3, none⟩ = some f := hS.less
    have HSR := Lib.hid hS
    clear hS
    obtain ⟨e, he⟩ : ∃ e, rows[k]? = some e := ⟨_, List.getElem?_eq_getElem hk⟩
    have hcp := (HSS.out.cp.drewN m).row k e he
    rw [← hm] at hcp
    obtain ⟨_, _, _, c3⟩ := hcp
    have HE := Lib.hid he
    have hin : ∀ c ∈ ks, BN.In wr h c.2 := fun c hc => by rw [hm]; exact ((HI.out c hc).below HB.out).below (Below.drewN W m)
    have HIN := Lib.hid hin
    have hbw : Below w.heap.size w wr := by rw [hm]; exact HB.out.trans (Below.drewN W m)
    have HBW := Lib.hid hbw
    have HM := Lib.hid hm
    clear hm he hin hbw
    have p1 : (0 : Int) ≤ (k : Int) := by omega
    have p2 : (k : Int) < (64 : Int) := by omega
    have p3 : k < 64 := by omega
    -- the part at k, if the search stops there
    have hstop : (k + 1 = rows.length ∨ ∃ e, rows[k + 1]? = some e ∧ cmpOf xs key e.key < 0) → ∃ c, ks[k]? = some c ∧ e.next = some ⟨BN.id h c.2, 0, none⟩ ∧ sk = getE (rankOf xs) h (BN.er h c.2) key := by
      intro hst
      have hj := ji_is HK0.out hk HK.out.1 hst
      have hc : ks[k]? = some (ks[k]'(by have := HL.out; omega)) := List.getElem?_eq_getElem _
      refine ⟨_, hc, ?_, ?_⟩
      · have h1 : (rows.map (fun r => (r.key, r.next)))[k]? = some (e.key, e.next) := by rw [List.getElem?_map, HE.out]; rfl
        rw [HR.out, List.getElem?_map, hc] at h1
        simp only [Option.map_some, Option.some.injEq, kidP, Prod.mk.injEq] at h1
        exact h1.2.symm
      · rw [HSK.out]
        unfold getN
        rw [hj, List.getElem?_map, hc]
        rfl
    have HST := Lib.hid hstop
    clear hstop
    by_cases hlast : k + 1 = rows.length
    · obtain ⟨c, hc, hnx, hsv⟩ := HST.out (.inl hlast)
      have HC := Lib.hid (And.intro hc hsv)
      rw [hnx] at c3
      have q1 : ((rows.length : Int) == (k : Int) + 1) = true := by rw [beq_iff_eq]; omega
      have q2 : (rows.length == k + 1) = true := by rw [beq_iff_eq]; omega
      have HQ := Lib.hid hlast
      clear hc hnx hsv hlast
      go_wp2_with fail
      go_quiet (fail)
      go_wp2_with fail
      (with_reducible refine (IH.out.at_ c.2 _ (HSR.out.drewN _) ((HIN.out c (List.mem_of_getElem? HC.out.1)).below (Below.drewN _ _)) (HWK.out c (List.mem_of_getElem? HC.out.1))).mono ?_)
      rintro e' w2 ⟨rfl, hb2⟩
      have HB2 := Lib.hid hb2
      clear hb2
      go_wp2_with fail
      go_ret2
      rw [HC.out.2]
      exact ⟨rfl, (HBW.out.trans (Below.drewN _ _)).trans (HB2.out.mono (HBW.out.trans (Below.drewN _ _)).size)⟩
    · obtain ⟨e2, he2⟩ : ∃ e2, rows[k + 1]? = some e2 := ⟨_, List.getElem?_eq_getElem (by omega)⟩
      have hcp2 := (HSS.out.cp.drewN m).row (k + 1) e2 he2
      rw [← HM.out] at hcp2
      obtain ⟨d0, _, _, _⟩ := hcp2
      have q1 : ((rows.length : Int) == (k : Int) + 1) = false := by rw [beq_eq_false_iff_ne]; omega
      have q2 : (rows.length == k + 1) = false := by rw [beq_eq_false_iff_ne]; omega
      have r1 : (0 : Int) ≤ (k : Int) + 1 := by omega
      have r2 : (k : Int) + 1 < (64 : Int) := by omega
      have r3 : ((k : Int) + 1).toNat = k + 1 := by omega
      have r4 : IntKind.i64.wrap ((k : Int) + 1) = (k : Int) + 1 := IntWalk.i64_in _ (by omega)
      have HL2 := Lib.hid (show k + 1 < rows.length by omega)
      have HE2 := Lib.hid he2
      clear hlast he2
      by_cases hc : cmpOf xs key e2.key < 0
      · obtain ⟨c, hc2, hnx, hsv⟩ := HST.out (.inr ⟨e2, HE2.out, hc⟩)
        have HC := Lib.hid (And.intro hc2 hsv)
        rw [hnx] at c3
        have q3 : decide (cmpOf xs key e2.key < 0) = true := decide_eq_true hc
        clear hc2 hnx hsv hc
        go_wp2_with fail
        go_quiet ((go_at_call 69; exact Calls.quiet_of (compare_calls xs _ _ _ _ _ (lessOk_drewN HSR.out.ok _))))
        clear r1 r2 r3 r4
        go_wp2_with fail
        (with_reducible refine (IH.out.at_ c.2 _ (HSR.out.drewN _) ((HIN.out c (List.mem_of_getElem? HC.out.1)).below (Below.drewN _ _)) (HWK.out c (List.mem_of_getElem? HC.out.1))).mono ?_)
        rintro e' w2 ⟨rfl, hb2⟩
        have HB2 := Lib.hid hb2
        clear hb2
        go_wp2_with fail
        go_ret2
        rw [HC.out.2]
        exact ⟨rfl, (HBW.out.trans (Below.drewN _ _)).trans (HB2.out.mono (HBW.out.trans (Below.drewN _ _)).size)⟩
      · have q3 : decide (cmpOf xs key e2.key < 0) = false := decide_eq_false hc
        have HC := Lib.hid hc
        clear hc
        go_wp2_with fail
        go_quiet ((go_at_call 69; exact Calls.quiet_of (compare_calls xs _ _ _ _ _ (lessOk_drewN HSR.out.ok _))))
        clear r1 r2 r3 r4
        go_wp2_with fail
        refine ⟨⟨k + 1, HL2.out, by go_num, Lib.hid ⟨fun i hi => ?_, ?_⟩⟩, by have := HL2.out; simp [intOf]; omega⟩
        · rcases Nat.lt_or_ge i k with h' | h'
          · exact HK.out.1 i h'
          · obtain rfl : i = k := by omega
            exact ⟨e2, HE2.out, by have := HC.out; omega⟩
        · rw [HM.out]; exact ⟨_, World.drewN_drewN _ _ _⟩
theorem search_calls (xs : List Int) (tb : Nat) (f : Value) (key : Int) : ∀ h : Nat, h ≤ 1000000000000 → SearchOk xs tb f key h := by
  intro h
  induction h with
  | zero => intro _; exact search_zero xs tb f key
  | succ h ih =>
    intro hh t w hs hin hw
    obtain ⟨b, ks⟩ : Nat × List (Int × BN h) := t
    exact search_succ xs tb f key h (ih (by omega)) (by omega) b ks w hs hin hw
end Go.Proofs.Ytjbelfbfhcmgeaa.Kp
