/- B-trees: insert, inner nodes. -/
import Derived.Test.YtjbelfbfhcmgeaaBtC
import Derived.Deep.CutBlock
namespace Go.Proofs.Ytjbelfbfhcmgeaa.Kp
open Go.RowKit Bt

/-- behind the search for the part, where the part was parted: what is in hand. -/
def CutX (xs : List Int) (key val : Int) (vld : Bool) (w : World) (h b : Nat) (ks : List (Int × BN h)) (rows : List Ent) (k : Nat) (wx : World) : Prop :=
  ∃ (A P : List (Int × BN h)) (e : Int × BN h) (c u : BN h) (w1 w2 : World), ks = A ++ e :: P ∧ A.length = k ∧ ji (rankOf xs) key (ks.map erK) = k ∧ Below w.heap.size w w1 ∧ w.heap.size < w1.heap.size ∧ InH w1 h b A P e rows ∧
    InsR w1 h e.2 (insE (rankOf xs) h (BN.er h e.2) key val vld) c (some u) w2 ∧ Blk wx w.heap.size #[.int .i64 (fstK h (BN.er h u)), .int .i64 val, .bool false, .pointer (some ⟨BN.id h u, 0, none⟩)] 84 ∧ Fr [w.heap.size] w2 wx ∧
    (∀ i ∈ b :: (flatI A ++ (BN.ids h e.2 ++ flatI P)), i < w.heap.size)
theorem insR_back {w : World} {h : Nat} {t : BN h} {res : BE h × Option (BE h)} {t' u : BN h} {w' : World} (R : InsR w h t res t' (some u) w') : ∃ uE, res = (res.1, some uE) ∧ BN.er h u = uE := by
  have := R.eru
  simp only [Option.map_some] at this
  exact ⟨_, Prod.ext rfl this.symm, rfl⟩
/-- the tail of an insertion closes it. -/
theorem CutX.close {xs : List Int} {key val : Int} {vld : Bool} {w : World} {h b : Nat} {ks : List (Int × BN h)} {rows : List Ent} {k : Nat} {wx : World} (H : CutX xs key val vld w h b ks rows k wx) :
    ∃ (fk : Int) (ub : Nat), ND wx b rows ∧ b ≠ w.heap.size ∧ Blk wx w.heap.size #[.int .i64 fk, .int .i64 val, .bool false, .pointer (some ⟨ub, 0, none⟩)] 84 ∧
      ∀ en w3, TailP wx b (insAt (k + 1) ⟨fk, val, false, some ⟨ub, 0, none⟩⟩ rows) en w3 → InsP w (h + 1) (b, ks) (insN (rankOf xs) (fun t => insE (rankOf xs) h t key val vld) (fstK h) key (ks.map erK)) en w3 := by
  obtain ⟨A, P, e, c, u, w1, w2, rfl, rfl, hj, hw, hlt, HH, R, hb, hx, hi⟩ := H
  have hbw : b ≠ w.heap.size := by have := hi b (List.mem_cons_self ..); omega
  obtain ⟨k1, _, _, _, _⟩ := HH.kid R
  refine ⟨_, _, k1.fr hx (by simp; exact hbw), hbw, hb, fun en w3 ht => ?_⟩
  rw [insN_hand hj]
  obtain ⟨uE, e1, e2⟩ := insR_back R
  rw [e1]
  simp only
  have := inner_some hw HH R hx (Nat.le_refl _) (by
    intro hm
    rcases List.mem_cons.1 hm with q | hm
    · exact hbw q.symm
    · rcases List.mem_append.1 hm with hm | hm
      · have := hi _ (by simp [hm] : w.heap.size ∈ b :: (flatI A ++ (BN.ids h e.2 ++ flatI P))); omega
      · rcases List.mem_append.1 hm with hm | hm
        · rcases R.sub _ hm with q | q
          · have := hi _ (by simp [q] : w.heap.size ∈ b :: (flatI A ++ (BN.ids h e.2 ++ flatI P))); omega
          · omega
        · have := hi _ (by simp [hm] : w.heap.size ∈ b :: (flatI A ++ (BN.ids h e.2 ++ flatI P))); omega) rfl ht
  rw [e2] at this
  exact this
theorem InsOk.at_ {xs : List Int} {tb : Nat} {f : Value} {B : Nat} {key val : Int} {vld : Bool} {h : Nat} (H : InsOk xs tb f B key val vld h) (t : BN h) (w : World) (h1 : TI w tb f xs B (BN.ids h t)) (h2 : BN.In w h t) (h3 : (BN.ids h t).Nodup) (h4 : Bt.Wf (rankOf xs) h (BN.er h t)) :
    Calls Try.prog 56 #[.pointer (some ⟨tb, 0, none⟩), .pointer (some ⟨BN.id h t, 0, none⟩), .int .i64 key, .int .i64 val, .int .i64 (h : Nat), .bool vld] w (InsP w h t (insE (rankOf xs) h (BN.er h t) key val vld)) := H t w h1 h2 h3 h4
theorem inH_of {w : World} {h b : Nat} {ks A P : List (Int × BN h)} {c : Int × BN h} {rows : List Ent} (hn : ND w b rows) (hr : rows.map (fun r => (r.key, r.next)) = ks.map (kidP (BN.id h))) (hi : ∀ x ∈ ks, BN.In w h x.2) (hnd : (BN.ids (h + 1) (b, ks)).Nodup) (hk : ks = A ++ c :: P) (n : Nat) : InH (w.drewN n) h b A P c rows := by
  subst hk
  rw [ids_hand] at hnd
  exact ⟨hn.below (Below.drewN (B := w.heap.size) w n) hn.lt, hr, fun x hx => (hi x hx).below (Below.drewN w n), hnd⟩
theorem call_kid {xs : List Int} {tb : Nat} {f : Value} {B : Nat} {key val : Int} {vld : Bool} {w : World} {h b : Nat} {ks A P : List (Int × BN h)} {c : Int × BN h} (ih : InsOk xs tb f B key val vld h) (ht : TI w tb f xs B (BN.ids (h + 1) (b, ks))) (hi : ∀ x ∈ ks, BN.In w h x.2) (hnd : (BN.ids (h + 1) (b, ks)).Nodup) (hw : ∀ x ∈ ks, Bt.Wf (rankOf xs) h (BN.er h x.2)) (hk : ks = A ++ c :: P) :
    ∀ n, Calls Try.prog 56 #[.pointer (some ⟨tb, 0, none⟩), .pointer (some ⟨BN.id h c.2, 0, none⟩), .int .i64 key, .int .i64 val, .int .i64 (h : Nat), .bool vld] (w.drewN n) (InsP (w.drewN n) h c.2 (insE (rankOf xs) h (BN.er h c.2) key val vld)) := by
  intro n
  subst hk
  have hm : c ∈ A ++ c :: P := by simp
  rw [ids_hand] at ht hnd
  refine ih c.2 _ ((ht.fr (Fr.drewN _ w n) ht.hS ht.htb).sub (fun i hi => by simp [hi])) ((hi c hm).below (Below.drewN w n)) ?_ (hw c hm)
  rw [List.nodup_cons, List.nodup_append, List.nodup_append] at hnd
  exact hnd.2.2.1.1
theorem inner_end {xs : List Int} {key val : Int} {vld : Bool} {w wr w2 : World} {h b : Nat} {ks A P : List (Int × BN h)} {c : Int × BN h} {c' : BN h} {rows : List Ent} {k n : Nat} {res : List (Int × BE h) × Option (List (Int × BE h))} (h1 : Below w.heap.size w wr) (_h2 : w.heap.size < wr.heap.size) (hr : res = insN (rankOf xs) (fun t => insE (rankOf xs) h t key val vld) (fstK h) key (ks.map erK)) (hk : ks = A ++ c :: P ∧ A.length = k ∧ ji (rankOf xs) key (ks.map erK) = k)
    (H : InH (wr.drewN n) h b A P c rows) (R : InsR (wr.drewN n) h c.2 (insE (rankOf xs) h (BN.er h c.2) key val vld) c' none w2) : InsP w (h + 1) (b, ks) res (.returned (.pointer none)) w2 := by
  obtain ⟨rfl, rfl, hj⟩ := hk
  subst hr
  rw [insN_hand hj]
  have hR := R
  have e0 := R.eru
  generalize insE (rankOf xs) h (BN.er h c.2) key val vld = q at hR e0 ⊢
  obtain ⟨q1, q2⟩ := q
  replace e0 : none = q2 := e0
  subst e0
  exact ⟨(b, A ++ (c.1, c') :: P), none, rfl, inner_none (h1.trans (Below.drewN wr n)) H hR⟩
set_option maxRecDepth 100000 in
set_option maxHeartbeats 6400000 in
theorem ins_succ (xs : List Int) (tb : Nat) (f : Value) (B : Nat) (key val : Int) (vld : Bool) (h : Nat) (ih : InsOk xs tb f B key val vld h) (hh : h ≤ 1000000000000) (b : Nat) (ks : List (Int × BN h)) (w : World) (hti : TI w tb f xs B (BN.ids (h + 1) (b, ks))) (hin : InnerIn w (BN.id h) (BN.In w h) (b, ks)) (hnd : (BN.ids (h + 1) (b, ks)).Nodup) (hw : WfN (rankOf xs) (Bt.Wf (rankOf xs) h) (flat h) (ks.map erK)) :
    Calls Try.prog 56 #[.pointer (some ⟨tb, 0, none⟩), .pointer (some ⟨b, 0, none⟩), .int .i64 key, .int .i64 val, .int .i64 ((h : Int) + 1), .bool vld] w (InsP w (h + 1) (b, ks) (insN (rankOf xs) (fun t => insE (rankOf xs) h t key val vld) (fstK h) key (ks.map erK))) := by
  have IH := Lib.hid ih
  obtain ⟨⟨rows, hn, hrows⟩, hkids⟩ := hin
  simp only at hn hrows hkids
  have hlen : ks.length = rows.length := by have := congrArg List.length hrows; simpa using this.symm
  have hpos : 0 < rows.length := by have := hw.1; simp at this; omega
  have hl : rows.length < 64 := by have := hw.2.1; simp at this; omega
  have hkeys : rows.map (fun r => r.key) = (ks.map erK).map Prod.fst := by
    have := congrArg (List.map Prod.fst) hrows
    simp only [List.map_map] at this ⊢
    exact this
  have hw1 : Below w.heap.size w (w.alloc (.cells #[.int .i64 key, .int .i64 val, .bool vld, .pointer none] 84)) := (Below.refl _ w).alloc (Nat.le_refl _) _
  have hsz1 : (w.alloc (.cells #[.int .i64 key, .int .i64 val, .bool vld, .pointer none] 84)).heap.size = w.heap.size + 1 := by simp
  have hidl : ∀ i ∈ BN.ids (h + 1) (b, ks), i < w.heap.size := BN.In.lt (h := h + 1) (t := (b, ks)) ⟨⟨rows, hn, hrows⟩, hkids⟩
  have HK0 := Lib.hid hkeys
  have HR := Lib.hid hrows
  have HI := Lib.hid hkids
  have HWK := Lib.hid (show ∀ c ∈ ks, Bt.Wf (rankOf xs) h (BN.er h c.2) ∧ flat h (BN.er h c.2) ≠ [] from fun c hc => hw.2.2.1 (erK c) (List.mem_map_of_mem hc))
  have HTI := Lib.hid (hti.fr (Fr.of_below hw1) hti.hS hti.htb)
  have hlt := hn.lt
  have HN := Lib.hid (hn.below hw1 hlt)
  have HEB := Lib.hid (Blk.new w #[.int .i64 key, .int .i64 val, .bool vld, .pointer none] 84)
  have HB := Lib.hid hw1
  have HSZ := Lib.hid hsz1
  have HID := Lib.hid hidl
  have HND := Lib.hid hnd
  have HL := Lib.hid hlen
  obtain ⟨res, hres⟩ : ∃ res, res = insN (rankOf xs) (fun t => insE (rankOf xs) h t key val vld) (fstK h) key (ks.map erK) := ⟨_, rfl⟩
  have HRS := Lib.hid hres
  rw [← hres]
  clear ih hn hrows hkids hkeys hw hw1 hsz1 hidl hti hnd hlen hres
  have hz : ((h : Int) + 1 == 0) = false := by rw [beq_eq_false_iff_ne]; omega
  go_enter Try.func56, Try.ntmps56
  go_upto_block 2 with (fail)
  generalize (w.alloc (.cells #[.int .i64 key, .int .i64 val, .bool vld, .pointer none] 84)) = W at *
  go_cut [14] (fun s wx => ∃ j : Nat, s = .int .i64 (j : Nat) ∧ ∃ k, j = k + 1 ∧ k < rows.length ∧ Hid (CutX xs key val vld w h b ks rows k wx))
  case first =>
    go_wp2_with fail
    go_loopw [14] (fun s wx => ∃ k : Nat, k < rows.length ∧ s = .int .i64 (k : Nat) ∧ Hid ((∀ i, i < k → goOn xs key rows i) ∧ ∃ n, wx = W.drewN n)) (fun s _ => rows.length - (intOf s).toNat)
    case atStart => exact ⟨0, hpos, rfl, Lib.hid ⟨fun i hi => absurd hi (Nat.not_lt_zero _), 0, rfl⟩⟩
    case round =>
      obtain ⟨k, hk, rfl, HK⟩ := hrel
      obtain ⟨m, hm⟩ := HK.out.2
      have hS : TI wr tb f xs B (BN.ids (h + 1) (b, ks)) := by rw [hm]; exact HTI.out.fr (Fr.drewN _ W m) HTI.out.hS HTI.out.htb
      have hN : ND wr b rows := by rw [hm]; exact HN.out.below (Below.drewN (B := W.heap.size) W m) HN.out.lt
      have cm := hN.m
      have cl : wr.cell? ⟨tb, 3, none⟩ = some f := hS.less
      have HTR := Lib.hid hS
      have HNR := Lib.hid hN
      obtain ⟨e, he⟩ : ∃ e, rows[k]? = some e := ⟨_, List.getElem?_eq_getElem hk⟩
      obtain ⟨_, _, _, c3⟩ := hN.row he
      have HE := Lib.hid he
      have hbw : Below w.heap.size w wr := by rw [hm]; exact HB.out.trans (Below.drewN W m)
      have hbs : w.heap.size < wr.heap.size := by rw [hm]; show w.heap.size < W.heap.size; rw [HSZ.out]; omega
      have HBW := Lib.hid (And.intro hbw hbs)
      have HEW := Lib.hid (show Blk wr w.heap.size #[.int .i64 key, .int .i64 val, .bool vld, .pointer none] 84 by rw [hm]; exact HEB.out.drewN m)
      have HM := Lib.hid hm
      clear hm he hbw hbs hS hN
      have p1 : (0 : Int) ≤ (k : Int) := by omega
      have p2 : (k : Int) < (64 : Int) := by omega
      have p3 : k < 64 := by omega
      have hstop : (k + 1 = rows.length ∨ ∃ e, rows[k + 1]? = some e ∧ cmpOf xs key e.key < 0) → ∃ A P c, ks = A ++ c :: P ∧ A.length = k ∧ ji (rankOf xs) key (ks.map erK) = k ∧ e.next = some ⟨BN.id h c.2, 0, none⟩ := by
        intro hst
        have hj := ji_is HK0.out hk HK.out.1 hst
        have hkl : k < ks.length := by have := HL.out; omega
        refine ⟨ks.take k, ks.drop (k + 1), ks[k], by simp, by simp; omega, hj, ?_⟩
        have h1 : (rows.map (fun r => (r.key, r.next)))[k]? = some (e.key, e.next) := by rw [List.getElem?_map, HE.out]; rfl
        rw [HR.out, List.getElem?_map, List.getElem?_eq_getElem hkl] at h1
        simp only [Option.map_some, Option.some.injEq, kidP, Prod.mk.injEq] at h1
        exact h1.2.symm
      have HST := Lib.hid hstop
      clear hstop
      by_cases hlast : k + 1 = rows.length
      · obtain ⟨A, P, c, hks, hAk, hj, hnx⟩ := HST.out (.inl hlast)
        have HKS := Lib.hid (And.intro hks (And.intro hAk hj))
        have HCALL := Lib.hid (call_kid IH.out HTR.out (fun x hx => (HI.out x hx).below HBW.out.1) HND.out (fun x hx => (HWK.out x hx).1) hks)
        rw [hnx] at c3
        have q1 : ((k : Int) + 1 == (rows.length : Int)) = true := by rw [beq_iff_eq]; omega
        have q2 : (k + 1 == rows.length) = true := by rw [beq_iff_eq]; omega
        clear hks hAk hj hnx hlast
        go_wp2_with fail
        go_quiet (fail)
        go_wp2_with fail
        (with_reducible refine (HCALL.out nq).mono ?_)
        intro en w2 hP
        obtain ⟨c', u, hen, hR⟩ := hP
        have HRR := Lib.hid hR
        clear hR
        cases u with
        | none =>
          replace hen : en = .returned (.pointer none) := hen
          subst hen
          go_wp2_with fail
          go_ret
          exact inner_end HBW.out.1 HBW.out.2 HRS.out HKS.out (inH_of HNR.out HR.out (fun x hx => (HI.out x hx).below HBW.out.1) HND.out HKS.out.1 nq) HRR.out
        | some u =>
          replace hen : en = .returned (.pointer (some ⟨BN.id h u, 0, none⟩)) := hen
          subst hen
          have ck := first_key (HRR.out.inu u rfl) (by
            have h2 := (insE_flat (r := rankOf xs) (k := key) (v := val) (b := vld) h (BN.er h c.2) (HWK.out c (by rw [HKS.out.1]; simp)).1).2
            obtain ⟨uE, e1, e2⟩ := insR_back HRR.out
            rw [e1] at h2
            rw [e2]
            exact h2.2.2.2.1)
          have hebn : w.heap.size ∉ BN.ids h c.2 := fun hm => by
            have := HID.out w.heap.size (by rw [HKS.out.1, ids_hand]; simp [hm])
            omega
          have HE2 := Lib.hid ((HEW.out.drewN nq).fr HRR.out.fr hebn)
          have x0 := HE2.out.cell 0
          have x2 := HE2.out.cell 2
          have x3 := HE2.out.cell 3
          simp only [List.getElem?_toArray, List.getElem?_cons_succ, List.getElem?_cons_zero] at x0 x2 x3
          have fx := HE2.out.frozen
          clear cm cl c3 hebn
          go_wp2_with fail
          go_meet
          refine ⟨k + 1, by go_num, k, rfl, hk, Lib.hid ⟨A, P, c, c', u, _, w2, HKS.out.1, HKS.out.2.1, HKS.out.2.2, HBW.out.1.trans (Below.drewN _ nq), HBW.out.2, inH_of HNR.out HR.out (fun x hx => (HI.out x hx).below HBW.out.1) HND.out HKS.out.1 nq, HRR.out, ?_, ?_, ?_⟩⟩
          · exact ((HE2.out.set 0 _).set 2 _).set 3 _
          · exact ((Fr.setCell _ _ 0 _ (by simp)).comp (Fr.setCell _ _ 2 _ (by simp))).comp (Fr.setCell _ _ 3 _ (by simp))
          · intro i hi
            exact HID.out i (by rw [HKS.out.1, ids_hand]; exact hi)
      · obtain ⟨e2, he2⟩ : ∃ e2, rows[k + 1]? = some e2 := ⟨_, List.getElem?_eq_getElem (by omega)⟩
        have d0 := (HNR.out.row he2).1
        have q1 : ((k : Int) + 1 == (rows.length : Int)) = false := by rw [beq_eq_false_iff_ne]; omega
        have q2 : (k + 1 == rows.length) = false := by rw [beq_eq_false_iff_ne]; omega
        have r1 : (0 : Int) ≤ (k : Int) + 1 := by omega
        have r2 : (k : Int) + 1 < (64 : Int) := by omega
        have r3 : ((k : Int) + 1).toNat = k + 1 := by omega
        have r4 : IntKind.i64.wrap ((k : Int) + 1) = (k : Int) + 1 := IntWalk.i64_in _ (by omega)
        have HL2 := Lib.hid (show k + 1 < rows.length by omega)
        have HEE := Lib.hid he2
        clear hlast he2
        by_cases hc : cmpOf xs key e2.key < 0
        · obtain ⟨A, P, c, hks, hAk, hj, hnx⟩ := HST.out (.inr ⟨e2, HEE.out, hc⟩)
          have HKS := Lib.hid (And.intro hks (And.intro hAk hj))
          have HCALL := Lib.hid (call_kid IH.out HTR.out (fun x hx => (HI.out x hx).below HBW.out.1) HND.out (fun x hx => (HWK.out x hx).1) hks)
          rw [hnx] at c3
          have q3 : decide (cmpOf xs key e2.key < 0) = true := decide_eq_true hc
          clear hks hAk hj hnx hc
          go_wp2_with fail
          go_quiet ((go_at_call 69; exact Calls.quiet_of (compare_calls xs _ _ _ _ _ (lessOk_drewN HTR.out.ok _))))
          clear r1 r2 r3 r4 d0
          go_wp2_with fail
          (with_reducible refine (HCALL.out nq).mono ?_)
          intro en w2 hP
          obtain ⟨c', u, hen, hR⟩ := hP
          have HRR := Lib.hid hR
          clear hR
          cases u with
          | none =>
            replace hen : en = .returned (.pointer none) := hen
            subst hen
            go_wp2_with fail
            go_ret
            exact inner_end HBW.out.1 HBW.out.2 HRS.out HKS.out (inH_of HNR.out HR.out (fun x hx => (HI.out x hx).below HBW.out.1) HND.out HKS.out.1 nq) HRR.out
          | some u =>
            replace hen : en = .returned (.pointer (some ⟨BN.id h u, 0, none⟩)) := hen
            subst hen
            have ck := first_key (HRR.out.inu u rfl) (by
              have h2 := (insE_flat (r := rankOf xs) (k := key) (v := val) (b := vld) h (BN.er h c.2) (HWK.out c (by rw [HKS.out.1]; simp)).1).2
              obtain ⟨uE, e1, e2⟩ := insR_back HRR.out
              rw [e1] at h2
              rw [e2]
              exact h2.2.2.2.1)
            have hebn : w.heap.size ∉ BN.ids h c.2 := fun hm => by
              have := HID.out w.heap.size (by rw [HKS.out.1, ids_hand]; simp [hm])
              omega
            have HE2 := Lib.hid ((HEW.out.drewN nq).fr HRR.out.fr hebn)
            have x0 := HE2.out.cell 0
            have x2 := HE2.out.cell 2
            have x3 := HE2.out.cell 3
            simp only [List.getElem?_toArray, List.getElem?_cons_succ, List.getElem?_cons_zero] at x0 x2 x3
            have fx := HE2.out.frozen
            clear cm cl c3 hebn
            go_wp2_with fail
            go_meet
            refine ⟨k + 1, by go_num, k, rfl, hk, Lib.hid ⟨A, P, c, c', u, _, w2, HKS.out.1, HKS.out.2.1, HKS.out.2.2, HBW.out.1.trans (Below.drewN _ nq), HBW.out.2, inH_of HNR.out HR.out (fun x hx => (HI.out x hx).below HBW.out.1) HND.out HKS.out.1 nq, HRR.out, ?_, ?_, ?_⟩⟩
            · exact ((HE2.out.set 0 _).set 2 _).set 3 _
            · exact ((Fr.setCell _ _ 0 _ (by simp)).comp (Fr.setCell _ _ 2 _ (by simp))).comp (Fr.setCell _ _ 3 _ (by simp))
            · intro i hi
              exact HID.out i (by rw [HKS.out.1, ids_hand]; exact hi)
        · have q3 : decide (cmpOf xs key e2.key < 0) = false := decide_eq_false hc
          have HC := Lib.hid hc
          clear hc
          go_wp2_with fail
          go_quiet ((go_at_call 69; exact Calls.quiet_of (compare_calls xs _ _ _ _ _ (lessOk_drewN HTR.out.ok _))))
          clear r1 r2 r3 r4 d0
          go_wp2_with fail
          refine ⟨⟨k + 1, HL2.out, by go_num, Lib.hid ⟨fun i hi => ?_, ?_⟩⟩, by have := HL2.out; simp [intOf]; omega⟩
          · rcases Nat.lt_or_ge i k with h' | h'
            · exact HK.out.1 i h'
            · obtain rfl : i = k := by omega
              exact ⟨e2, HEE.out, by have := HC.out; omega⟩
          · rw [HM.out]; exact ⟨_, World.drewN_drewN _ _ _⟩
  case rest =>
    obtain ⟨j, rfl, k, hjk, hk, HX⟩ := hcut
    obtain ⟨fk, ub, hnx, hbw, hbe, hcl⟩ := CutX.close HX.out
    rw [← hjk, ← HRS.out] at hcl
    have hj : j ≤ rows.length := by omega
    have HCL := Lib.hid hcl
    have HN2 := Lib.hid hnx
    have cm := HN2.out.m
    have HSH := Lib.hid (ShM.start HN2.out)
    have HEB0 := Lib.hid hbe
    have HF0 := Lib.hid (Fr.refl [b] wc)
    clear hjk hk HX hnx hbw hbe hcl
    go_wp2_with fail
    go_loopw [16] (fun s wx => ∃ i : Nat, j ≤ i ∧ i ≤ rows.length ∧ s = .int .i64 (i : Nat) ∧ Hid (ShM wc b rows i wx)) (fun s _ => (intOf s).toNat)
    case atStart => exact ⟨rows.length, hj, Nat.le_refl _, rfl, HSH⟩
    case round =>
      obtain ⟨i, hi1, hi2, hs16, HK⟩ := hrel
      by_cases hgt : j < i
      · obtain ⟨i, rfl⟩ : ∃ i', i = i' + 1 := ⟨i - 1, by omega⟩
        replace hs16 : u16 = Value.int .i64 ((i : Int) + 1) := hs16
        subst hs16
        obtain ⟨e, he⟩ : ∃ e, rows[i]? = some e := ⟨_, List.getElem?_eq_getElem (by omega)⟩
        obtain ⟨c0, c1, c2, c3⟩ := HK.out.pn.row (i := i) (e := e) (by rw [if_pos (by omega)]; exact he)
        obtain ⟨u0, u1, u2, u3, d0, d1, d2, d3⟩ := HK.out.pn.room (i := i + 1) (by omega)
        have fn := HK.out.pn.frozen
        have HE := Lib.hid he
        have p0 : (0 : Int) ≤ (i : Int) := by omega
        have p1 : (0 : Int) ≤ (i : Int) + 1 := by omega
        have p2 : (i : Int) + 1 < (64 : Int) := by omega
        have p3 : (i : Int) < (64 : Int) := by omega
        have n1 : i < 64 := by omega
        have n2 : i + 1 < 64 := by omega
        have p5 : ((i : Int) + 1).toNat = i + 1 := by omega
        have p6 : IntKind.i64.wrap ((i : Int) + 1 - 1) = (i : Int) := by rw [Int.add_sub_cancel]; exact IntWalk.i64_in _ (by omega)
        have p7 : IntKind.i64.wrap (i : Int) = (i : Int) := IntWalk.i64_in _ (by omega)
        clear he
        go_wp2_with fail
        go_region_with (fail)
        all_goals
          clear p5 p6 p7 c0 c1 c2 c3 d0 d1 d2 d3
          go_wp2_with fail
          exact ⟨⟨i, by omega, by omega, by go_num, Lib.hid (HK.out.next HE.out (by omega) 1)⟩, by simp [intOf]⟩
      · have : i = j := by omega
        subst this
        subst hs16
        obtain ⟨u0, u1, u2, u3, d0, d1, d2, d3⟩ := HK.out.pn.room (i := i) (by omega)
        have fn := HK.out.pn.frozen
        have HEB := Lib.hid (HEB0.out.fr HK.out.fr (by simp; omega))
        have x0 := HEB.out.cell 0
        have x1 := HEB.out.cell 1
        have x2 := HEB.out.cell 2
        have x3 := HEB.out.cell 3
        simp only [List.getElem?_toArray, List.getElem?_cons_succ, List.getElem?_cons_zero] at x0 x1 x2 x3
        have p1 : (0 : Int) ≤ (i : Int) := by omega
        have p2 : (i : Int) < (64 : Int) := by omega
        have n1 : i < 64 := by omega
        go_wp2_with fail
        go_region_with (fail)
        all_goals
          have HD := Lib.hid (HK.out.put ⟨fk, val, false, some ⟨ub, 0, none⟩⟩ (by omega))
          clear x0 x1 x2 x3 d0 d1 d2 d3 fn HK HEB
          go_upto_region 28 with (fail)
          generalize (((((wr.setCell ⟨b, 1 + i * 4, none⟩ (.int .i64 fk)).setCell ⟨b, 1 + i * 4 + 1, none⟩ (.int .i64 val)).setCell ⟨b, 1 + i * 4 + 2, none⟩ (.bool false)).setCell ⟨b, 1 + i * 4 + 3, none⟩ (.pointer (some ⟨ub, 0, none⟩))).drew) = W5 at *
          have cm := HD.out.1.m
          have fn := HD.out.1.frozen
          have HN6 := Lib.hid (ins_done HD.out.1 hi2 hl)
          have HF6 := Lib.hid ((HF0.out.comp HD.out.2).comp (Fr.setCell (S := [b]) W5 b 0 (.int .i64 ((rows.length : Int) + 1)) (by simp)))
          have hlb := HF6.out.size
          by_cases h64 : rows.length + 1 < 64
          · have q1 : (rows.length : Int) + 1 < 64 := by omega
            go_wp2_with fail
            go_ret
            exact HCL.out _ _ (.inl ⟨by rw [insAt_len hi2]; exact h64, rfl, HN6.out, HF6.out⟩)
          · have q1 : ((rows.length : Int) + 1 < 64) = False := eq_false (by omega)
            have q2 : decide ((rows.length : Int) + 1 < 64) = false := decide_eq_false (by omega)
            have q3 : ¬ ((rows.length : Int) + 1 < 64) := by omega
            go_wp2_with fail
            (with_reducible refine (split_calls _ b _ _ HN6.out (by rw [insAt_len hi2]; omega)).mono ?_)
            rintro e' w7 ⟨rfl, n1, n2, f7⟩
            go_wp2_with fail
            go_ret
            have sz : (W5.setCell ⟨b, 0, none⟩ (.int .i64 ((rows.length : Int) + 1))).heap.size = W5.heap.size := by simp [World.setCell]
            rw [sz] at n2
            exact HCL.out _ _ (.inr ⟨by rw [insAt_len hi2]; omega, _, rfl, by rw [← sz]; exact hlb, n1, n2, HF6.out.comp f7⟩)
end Go.Proofs.Ytjbelfbfhcmgeaa.Kp
