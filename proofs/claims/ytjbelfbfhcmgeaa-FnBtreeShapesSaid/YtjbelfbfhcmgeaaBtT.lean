/- B-trees: New, Put, Get, Remove. -/
import Derived.Test.YtjbelfbfhcmgeaaBtI5
import Derived.StillTailTactics
namespace Go.Proofs.Ytjbelfbfhcmgeaa.Kp
open Go.RowKit Bt

theorem ins_calls (xs : List Int) (tb : Nat) (f : Value) (B : Nat) (key val : Int) (vld : Bool) : ∀ h : Nat, h ≤ 1000000000000 → InsOk xs tb f B key val vld h := by
  intro h
  induction h with
  | zero => intro _; exact ins_zero xs tb f B key val vld
  | succ h ih =>
    intro hh t w hti hin hnd hw
    obtain ⟨b, ks⟩ : Nat × List (Int × BN h) := t
    exact ins_succ xs tb f B key val vld h (ih (by omega)) (by omega) b ks w hti hin hnd hw
/-- a tree: how many levels, and its root. -/
abbrev BNT := Σ h, BN h
def BNT.er (s : BNT) : BT := ⟨s.1, BN.er s.1 s.2⟩
def BNT.ids (s : BNT) : List Nat := BN.ids s.1 s.2
/-- a tree in memory. -/
structure TB (w : World) (tb : Nat) (f : Value) (xs : List Int) (B : Nat) (s : BNT) (n : Int) : Prop where
  blk : Blk w tb #[.pointer (some ⟨BN.id s.1 s.2, 0, none⟩), .int .i64 (s.1 : Nat), .int .i64 n, f] 89
  inn : BN.In w s.1 s.2
  nd : s.ids.Nodup
  hS : ∀ i ∈ s.ids, B ≤ i
  htb : tb ∉ s.ids
  ok : LessOk w B f xs
  hB : B ≤ tb
  wf : s.er.Wf (rankOf xs)
theorem TB.ti {w : World} {tb : Nat} {f : Value} {xs : List Int} {B : Nat} {s : BNT} {n : Int} (H : TB w tb f xs B s n) : TI w tb f xs B s.ids :=
  ⟨H.blk.cell 3, H.ok, Nat.le_trans H.hB (Nat.le_of_lt H.blk.lt), H.hS, H.htb⟩
theorem TB.fr {w w' : World} {tb : Nat} {f : Value} {xs : List Int} {B : Nat} {s : BNT} {n : Int} {S : List Nat} (H : TB w tb f xs B s n) (hf : Fr S w w') (h1 : tb ∉ S) (h2 : ∀ i ∈ s.ids, i ∉ S) (h3 : ∀ i ∈ S, B ≤ i) : TB w' tb f xs B s n :=
  ⟨H.blk.fr hf h1, H.inn.fr hf h2, H.nd, H.hS, H.htb, H.ok.below (hf.below h3 (Nat.le_trans H.hB (Nat.le_of_lt H.blk.lt))), H.hB, H.wf⟩
theorem TB.lt {w : World} {tb : Nat} {f : Value} {xs : List Int} {B : Nat} {s : BNT} {n : Int} (H : TB w tb f xs B s n) : ∀ i ∈ tb :: s.ids, i < w.heap.size := by
  intro i hi
  rcases List.mem_cons.1 hi with rfl | hi
  · exact H.blk.lt
  · exact H.inn.lt i hi
/-- what a step leaves of a tree. -/
def StepB (w : World) (tb : Nat) (f : Value) (xs : List Int) (B : Nat) (s : BNT) (r : BT) (n' : Int) (w' : World) : Prop :=
  ∃ s', TB w' tb f xs B s' n' ∧ s'.er = r ∧ (∀ i ∈ s'.ids, i ∈ s.ids ∨ w.heap.size ≤ i) ∧ Fr (tb :: s.ids) w w'
/-- the root was not parted. -/
theorem step_none {xs : List Int} {tb : Nat} {f : Value} {B : Nat} {h : Nat} {t : BN h} {n n' : Int} {w w2 : World} {res : BE h × Option (BE h)} {t' : BN h} (H : TB w tb f xs B ⟨h, t⟩ n) (R : InsR (w.drewN 1) h t res t' none w2) (hw : Bt.Wf (rankOf xs) h res.1) :
    StepB w tb f xs B ⟨h, t⟩ ⟨h, res.1⟩ n' (w2.setCell ⟨tb, 2, none⟩ (.int .i64 n')) := by
  have hb2 : Blk w2 tb _ _ := (H.blk.drewN 1).fr R.fr H.htb
  have f1 : Fr [tb] w2 (w2.setCell ⟨tb, 2, none⟩ (.int .i64 n')) := Fr.setCell w2 tb 2 _ (by simp)
  have hB2 : B ≤ w2.heap.size := Nat.le_trans H.hB (Nat.le_of_lt hb2.lt)
  have hids : ∀ i ∈ BN.ids h t', i ∈ BN.ids h t ∨ w.heap.size ≤ i := fun i hi => R.sub i (List.mem_append_left _ hi)
  have htl := H.blk.lt
  have htb : tb ∉ BN.ids h t' := fun hm => by
    rcases hids tb hm with q | q
    · exact H.htb q
    · omega
  have hok : LessOk w2 B f xs := (lessOk_drewN H.ok 1).below (R.fr.below H.hS (Nat.le_trans H.hB (Nat.le_of_lt htl)))
  have hnd := R.nd
  rw [show idsO h (none : Option (BN h)) = [] from rfl, List.append_nil] at hnd
  have e := R.idq
  refine ⟨⟨h, t'⟩, ⟨?_, R.inn.fr f1 (fun i hi hm => htb (by rw [List.mem_singleton.1 hm] at hi; exact hi)), hnd, fun i hi => ?_, htb, hok.below (f1.below (by simp; exact H.hB) hB2), H.hB, ?_⟩, ?_, hids, ?_⟩
  · have := hb2.set 2 (.int .i64 n')
    show Blk _ tb #[.pointer (some ⟨BN.id h t', 0, none⟩), .int .i64 (h : Nat), .int .i64 n', f] _
    rw [e]; exact this
  · rcases hids i hi with q | q
    · exact H.hS i q
    · have := H.hB; omega
  · show Bt.Wf (rankOf xs) h (BN.er h t')
    rw [R.er]; exact hw
  · show (⟨h, BN.er h t'⟩ : BT) = _
    rw [R.er]
  · exact (((Fr.drewN _ w 1).comp (R.fr.mono (fun x hx => .inl (List.mem_cons_of_mem _ hx))))).comp (f1.mono (fun x hx => .inl (by simp at hx; simp [hx])))
/-- the root was parted: a new one above both. -/
theorem step_some {xs : List Int} {tb : Nat} {f : Value} {B : Nat} {h : Nat} {t : BN h} {n n' : Int} {w w2 wX : World} {res : BE h × Option (BE h)} {t' u : BN h} {r2 : BT} {g : Nat → Option Ent} (H : TB w tb f xs B ⟨h, t⟩ n) (R : InsR (w.drewN 1) h t res t' (some u) w2)
    (hr : r2 = ⟨h + 1, [(fstK h (BN.er h t'), BN.er h t'), (fstK h (BN.er h u), BN.er h u)]⟩) (hw : r2.Wf (rankOf xs)) (hX : Fr [tb] w2 wX)
    (hb : Blk wX tb #[.pointer (some ⟨BN.id h t, 0, none⟩), .int .i64 (h : Nat), .int .i64 n', f] 89) (hp : PN wX w2.heap.size 2 g)
    (g0 : g 0 = some ⟨fstK h (BN.er h t'), 0, false, some ⟨BN.id h t', 0, none⟩⟩) (g1 : g 1 = some ⟨fstK h (BN.er h u), 0, false, some ⟨BN.id h u, 0, none⟩⟩) :
    StepB w tb f xs B ⟨h, t⟩ r2 n' ((wX.setCell ⟨tb, 0, none⟩ (.pointer (some ⟨w2.heap.size, 0, none⟩))).setCell ⟨tb, 1, none⟩ (.int .i64 ((h : Int) + 1))) := by
  obtain ⟨w', hw'⟩ : ∃ w', w' = (wX.setCell ⟨tb, 0, none⟩ (.pointer (some ⟨w2.heap.size, 0, none⟩))).setCell ⟨tb, 1, none⟩ (.int .i64 ((h : Int) + 1)) := ⟨_, rfl⟩
  have hF2 : Fr [tb] wX w' := by rw [hw']; exact (Fr.setCell wX tb 0 _ (by simp)).comp (Fr.setCell _ tb 1 _ (by simp))
  have hF : Fr [tb] w2 w' := hX.comp hF2
  have hb2 : Blk w' tb #[.pointer (some ⟨w2.heap.size, 0, none⟩), .int .i64 ((h + 1 : Nat) : Int), .int .i64 n', f] 89 := by
    rw [hw']
    have := (hb.set 0 (.pointer (some ⟨w2.heap.size, 0, none⟩))).set 1 (.int .i64 ((h : Int) + 1))
    exact this
  rw [← hw']
  have htl := H.blk.lt
  have hsz := R.fr.size
  have hsz' : w.heap.size ≤ w2.heap.size := hsz
  have hids : ∀ i ∈ BN.ids h t' ++ BN.ids h u, i ∈ BN.ids h t ∨ w.heap.size ≤ i := fun i hi => R.sub i hi
  have hlt : ∀ i ∈ BN.ids h t' ++ BN.ids h u, i < w2.heap.size := fun i hi => by
    rcases List.mem_append.1 hi with hi | hi
    · exact R.inn.lt i hi
    · exact (R.inu u rfl).lt i hi
  have htb : tb ∉ BN.ids h t' ++ BN.ids h u := fun hm => by
    rcases hids tb hm with q | q
    · exact H.htb q
    · omega
  have hnd : (BN.ids h t' ++ BN.ids h u).Nodup := R.nd
  have hids2 : BN.ids (h + 1) (w2.heap.size, [(fstK h (BN.er h t'), t'), (fstK h (BN.er h u), u)]) = w2.heap.size :: (BN.ids h t' ++ BN.ids h u) := by
    show _ :: (List.flatMap _ _) = _
    simp
  have hok : LessOk w2 B f xs := (lessOk_drewN H.ok 1).below (R.fr.below H.hS (Nat.le_trans H.hB (Nat.le_of_lt htl)))
  have hwB : B ≤ w.heap.size := Nat.le_trans H.hB (Nat.le_of_lt htl)
  obtain ⟨s', hs'⟩ : ∃ s' : BNT, s' = ⟨h + 1, (w2.heap.size, [(fstK h (BN.er h t'), t'), (fstK h (BN.er h u), u)])⟩ := ⟨_, rfl⟩
  have her : s'.er = r2 := by rw [hs', hr]; rfl
  have hsi : s'.ids = w2.heap.size :: (BN.ids h t' ++ BN.ids h u) := by rw [hs']; exact hids2
  refine ⟨s', ⟨?_, ?_, ?_, ?_, ?_, ?_, H.hB, ?_⟩, her, ?_, ?_⟩
  · rw [hs']; exact hb2
  · rw [hs']
    refine ⟨⟨[⟨fstK h (BN.er h t'), 0, false, some ⟨BN.id h t', 0, none⟩⟩, ⟨fstK h (BN.er h u), 0, false, some ⟨BN.id h u, 0, none⟩⟩], (hp.fr hF2 (by simp; omega)).toN _ rfl ?_ (by simp), rfl⟩, ?_⟩
    · intro i e he
      match i, he with
      | 0, he => simp at he; rw [g0, he]
      | 1, he => simp at he; rw [g1, he]
      | i + 2, he => simp at he
    · intro e he
      rcases List.mem_cons.1 he with rfl | he
      · exact R.inn.fr hF (fun i hi hm => htb (by rw [List.mem_singleton.1 hm] at hi; exact List.mem_append_left _ hi))
      · rcases List.mem_cons.1 he with rfl | he
        · exact (R.inu u rfl).fr hF (fun i hi hm => htb (by rw [List.mem_singleton.1 hm] at hi; exact List.mem_append_right _ hi))
        · cases he
  · rw [hsi]; exact List.nodup_cons.2 ⟨fun hm => by have := hlt _ hm; omega, hnd⟩
  · rw [hsi]
    intro i hi
    rcases List.mem_cons.1 hi with rfl | hi
    · omega
    · rcases hids i hi with q | q
      · exact H.hS i q
      · omega
  · rw [hsi]
    intro hm
    rcases List.mem_cons.1 hm with q | q
    · omega
    · exact htb q
  · exact hok.below (hF.below (by simp; exact H.hB) (by omega))
  · rw [her]; exact hw
  · rw [hsi]
    intro i hi
    rcases List.mem_cons.1 hi with rfl | hi
    · exact .inr hsz'
    · exact hids i hi
  · exact (((Fr.drewN _ w 1).comp (R.fr.mono (fun x hx => .inl (List.mem_cons_of_mem _ hx))))).comp (hF.mono (fun x hx => .inl (by simp at hx; simp [hx])))
theorem putB_none {r : Int → Int} {k v : Int} {h : Nat} {t t' : BE h} (hq : insE r h t k v true = (t', none)) : putB r k v ⟨h, t⟩ = ⟨h, t'⟩ := by unfold putB; simp only [hq]
theorem putB_some {r : Int → Int} {k v : Int} {h : Nat} {t t' u : BE h} (hq : insE r h t k v true = (t', some u)) : putB r k v ⟨h, t⟩ = ⟨h + 1, [(fstK h t', t'), (fstK h u, u)]⟩ := by unfold putB; simp only [hq]
set_option maxRecDepth 100000 in
set_option maxHeartbeats 3200000 in
theorem bput_calls (xs : List Int) (tb : Nat) (f : Value) (B : Nat) (s : BNT) (n : Int) (key val : Int) (w : World) (H : TB w tb f xs B s n) (hh : s.1 ≤ 100000000000) (hn : -100000000000 ≤ n ∧ n ≤ 100000000000) :
    Calls Try.prog 37 #[.pointer (some ⟨tb, 0, none⟩), .int .i64 key, .int .i64 val] w fun e w' => e = .returned (.tuple #[]) ∧ StepB w tb f xs B s (putB (rankOf xs) key val s.er) (n + 1) w' := by
  obtain ⟨h, t⟩ := s
  have HH := Lib.hid H
  have c0 : w.cell? ⟨tb, 0, none⟩ = some (.pointer (some ⟨BN.id h t, 0, none⟩)) := H.blk.cell 0
  have c1 : w.cell? ⟨tb, 1, none⟩ = some (.int .i64 (h : Nat)) := H.blk.cell 1
  have HC := Lib.hid (fun m => (ins_calls xs tb f B key val true h (by simp only at hh; omega)).at_ t (w.drewN m) (H.ti.fr (Fr.drewN _ w m) H.ti.hS H.ti.htb) (H.inn.below (Below.drewN w m)) H.nd H.wf)
  obtain ⟨n1, n2⟩ := hn
  clear H
  go_enter Try.func37, Try.ntmps37
  go_wp2_with fail
  go_still_tail 11, (by kernel_rfl)
  change wpList _ _ _ _ _ (w.drewN 1)
  go_wp2_with fail
  (with_reducible refine (HC.out 1).mono ?_)
  intro en w2 hP
  obtain ⟨t', u, hen, hR⟩ := hP
  have HRR := Lib.hid hR
  have hb2 : Blk w2 tb _ _ := (HH.out.blk.drewN 1).fr hR.fr HH.out.htb
  have d0 : w2.cell? ⟨tb, 0, none⟩ = some (.pointer (some ⟨BN.id h t, 0, none⟩)) := hb2.cell 0
  have d1 : w2.cell? ⟨tb, 1, none⟩ = some (.int .i64 (h : Nat)) := hb2.cell 1
  have d2 : w2.cell? ⟨tb, 2, none⟩ = some (.int .i64 n) := hb2.cell 2
  have fd := hb2.frozen
  have HB2 := Lib.hid hb2
  clear hR hb2 c0 c1
  cases u with
  | none =>
    replace hen : en = .returned (.pointer none) := hen
    subst hen
    go_wp2_with fail
    refine bodyPost_ret (results_none rfl _ _ _) rfl ?_
    have hw2 := (insE_flat (r := rankOf xs) (k := key) (v := val) (b := true) h (BN.er h t) HH.out.wf).2
    have e0 := HRR.out.eru
    have hq : insE (rankOf xs) h (BN.er h t) key val true = ((insE (rankOf xs) h (BN.er h t) key val true).1, none) := Prod.ext rfl e0.symm
    have hput : putB (rankOf xs) key val (BNT.er ⟨h, t⟩) = ⟨h, (insE (rankOf xs) h (BN.er h t) key val true).1⟩ := putB_none hq
    rw [hput]
    refine ⟨rfl, step_none HH.out HRR.out ?_⟩
    rw [hq] at hw2
    exact hw2.1
  | some u =>
    replace hen : en = .returned (.pointer (some ⟨BN.id h u, 0, none⟩)) := hen
    subst hen
    have hw2 := (insE_flat (r := rankOf xs) (k := key) (v := val) (b := true) h (BN.er h t) HH.out.wf).2
    have hq : insE (rankOf xs) h (BN.er h t) key val true = (BN.er h t', some (BN.er h u)) := Prod.ext HRR.out.er.symm HRR.out.eru.symm
    have hput : putB (rankOf xs) key val (BNT.er ⟨h, t⟩) = ⟨h + 1, [(fstK h (BN.er h t'), BN.er h t'), (fstK h (BN.er h u), BN.er h u)]⟩ := putB_some hq
    have hwp : (putB (rankOf xs) key val (BNT.er ⟨h, t⟩)).Wf (rankOf xs) := (putB_flat HH.out.wf).2
    rw [hq] at hw2
    obtain ⟨_, _, ne1, ne2, _, _⟩ := hw2
    have k1 := first_key HRR.out.inn ne1
    rw [HRR.out.idq] at k1
    have k2 := first_key (HRR.out.inu u rfl) ne2
    have HPQ := Lib.hid (And.intro hput hwp)
    clear hq hput hwp ne1 ne2
    have hut : tb ∉ BN.ids h t' ++ BN.ids h u := fun hm => by
      rcases HRR.out.sub tb hm with q | q
      · exact HH.out.htb q
      · have := HH.out.blk.lt; have : w.heap.size ≤ tb := q; omega
    have nt : BN.id h t ≠ tb := fun e => hut (List.mem_append_left _ (by rw [← e, ← HRR.out.idq]; exact BN.id_mem h t'))
    have nu : BN.id h u ≠ tb := fun e => hut (List.mem_append_right _ (by rw [← e]; exact BN.id_mem h u))
    have lt1 : BN.id h t < w2.heap.size := by rw [← HRR.out.idq]; exact HRR.out.inn.lt _ (BN.id_mem h t')
    have lt2 : BN.id h u < w2.heap.size := (HRR.out.inu u rfl).lt _ (BN.id_mem h u)
    have lt3 : tb < w2.heap.size := HB2.out.lt
    go_wp2_with fail
    obtain ⟨W3, hW3⟩ : ∃ W3, W3 = (w2.setCell ⟨tb, 2, none⟩ (.int .i64 (n + 1))).alloc (.cells (Try.zeroCells87.setIfInBounds 0 (.int .i64 2)) 87) := ⟨_, rfl⟩
    rw [← hW3]
    have F3 : Fr [tb] w2 W3 := by rw [hW3]; exact (Fr.setCell w2 tb 2 _ (by simp)).comp (Fr.alloc _ _ _)
    have P3 : PN W3 w2.heap.size 2 (fun _ => none) := by
      rw [hW3]
      have := PN.new (w2.setCell ⟨tb, 2, none⟩ (.int .i64 (n + 1))) 2
      rw [show (w2.setCell ⟨tb, 2, none⟩ (.int .i64 (n + 1))).heap.size = w2.heap.size by simp [World.setCell]] at this
      exact this
    have B3 : Blk W3 tb #[.pointer (some ⟨BN.id h t, 0, none⟩), .int .i64 (h : Nat), .int .i64 (n + 1), f] 89 := by
      rw [hW3]; exact (HB2.out.set 2 _).alloc _
    have s3 : W3.heap.size = w2.heap.size + 1 := by rw [hW3]; simp [World.setCell]
    have x0 : W3.cell? ⟨tb, 0, none⟩ = some (.pointer (some ⟨BN.id h t, 0, none⟩)) := B3.cell 0
    have x1 : W3.cell? ⟨BN.id h t, 1, none⟩ = some (.int .i64 (fstK h (BN.er h t'))) := F3.cell k1 (by simpa using nt)
    have x2 : W3.cell? ⟨BN.id h u, 1, none⟩ = some (.int .i64 (fstK h (BN.er h u))) := F3.cell k2 (by simpa using nu)
    clear hW3 k1 k2 d0 d1 d2 fd
    have HW := Lib.hid (And.intro F3 (And.intro P3 (And.intro B3 s3)))
    obtain ⟨u0, u1, u2, u3, y1, y2, y3, y4⟩ := P3.room (i := 0) (by omega)
    replace y1 : W3.cell? ⟨w2.heap.size, 1, none⟩ = some u0 := y1
    replace y2 : W3.cell? ⟨w2.heap.size, 2, none⟩ = some u1 := y2
    replace y3 : W3.cell? ⟨w2.heap.size, 3, none⟩ = some u2 := y3
    replace y4 : W3.cell? ⟨w2.heap.size, 4, none⟩ = some u3 := y4
    have fz := P3.frozen
    have z1 : BN.id h t < W3.heap.size := by omega
    have z2 : BN.id h u < W3.heap.size := by omega
    have z3 : tb < W3.heap.size := by omega
    clear F3 P3 B3 s3
    go_cut [] (fun wx => wx = ((((W3.setCell ⟨w2.heap.size, 1, none⟩ (.int .i64 (fstK h (BN.er h t')))).setCell ⟨w2.heap.size, 2, none⟩ (.int .i64 0)).setCell ⟨w2.heap.size, 3, none⟩ (.bool false)).setCell ⟨w2.heap.size, 4, none⟩ (.pointer (some ⟨BN.id h t, 0, none⟩))).drew)
    case first =>
      go_region_with (fail)
      all_goals
        go_wp2_with fail
        go_meet
        exact rfl
    case rest =>
      have P4 := (HW.out.2.1.setE 0 (by omega) ⟨fstK h (BN.er h t'), 0, false, some ⟨BN.id h t, 0, none⟩⟩).drewN 1
      have F4 := (fr_setE W3 w2.heap.size 0 (.int .i64 (fstK h (BN.er h t'))) (.int .i64 0) (.bool false) (.pointer (some ⟨BN.id h t, 0, none⟩))).comp (Fr.drewN _ _ 1)
      have F4' : Fr [w2.heap.size] W3 wc := by rw [hcut]; exact F4
      replace P4 : PN wc w2.heap.size 2 (fun k => if k = 0 then some ⟨fstK h (BN.er h t'), 0, false, some ⟨BN.id h t, 0, none⟩⟩ else none) := by rw [hcut]; exact P4
      have b4 := HW.out.2.2.1.fr F4' (by simp; omega)
      have x0 : wc.cell? ⟨tb, 0, none⟩ = some (.pointer (some ⟨BN.id h t, 0, none⟩)) := b4.cell 0
      have x1 : wc.cell? ⟨tb, 1, none⟩ = some (.int .i64 (h : Nat)) := b4.cell 1
      have x2 : wc.cell? ⟨BN.id h u, 1, none⟩ = some (.int .i64 (fstK h (BN.er h u))) := F4'.cell x2 (by simp; omega)
      have HW4 := Lib.hid (And.intro F4' (And.intro P4 b4))
      obtain ⟨u0, u1, u2, u3, y1, y2, y3, y4⟩ := P4.room (i := 1) (by omega)
      replace y1 : wc.cell? ⟨w2.heap.size, 5, none⟩ = some u0 := y1
      replace y2 : wc.cell? ⟨w2.heap.size, 6, none⟩ = some u1 := y2
      replace y3 : wc.cell? ⟨w2.heap.size, 7, none⟩ = some u2 := y3
      replace y4 : wc.cell? ⟨w2.heap.size, 8, none⟩ = some u3 := y4
      have fz := P4.frozen
      have ft := b4.frozen
      have hsz : W3.heap.size ≤ wc.heap.size := F4'.size
      have z2 : BN.id h u < wc.heap.size := by omega
      have z3 : tb < wc.heap.size := by omega
      clear hcut P4 F4 F4' b4 hsz
      go_wp2_with fail
      obtain ⟨W4, hW4⟩ : ∃ x, x = wc := ⟨_, rfl⟩
      subst hW4
      go_cut [] (fun wx => wx = ((((W4.setCell ⟨w2.heap.size, 5, none⟩ (.int .i64 (fstK h (BN.er h u)))).setCell ⟨w2.heap.size, 6, none⟩ (.int .i64 0)).setCell ⟨w2.heap.size, 7, none⟩ (.bool false)).setCell ⟨w2.heap.size, 8, none⟩ (.pointer (some ⟨BN.id h u, 0, none⟩))).drew)
      case first =>
        go_region_with (fail)
        all_goals
          go_wp2_with fail
          go_meet
          exact rfl
      case rest =>
        have P5 := (HW4.out.2.1.setE 1 (by omega) ⟨fstK h (BN.er h u), 0, false, some ⟨BN.id h u, 0, none⟩⟩).drewN 1
        have F5 := (fr_setE W4 w2.heap.size 1 (.int .i64 (fstK h (BN.er h u))) (.int .i64 0) (.bool false) (.pointer (some ⟨BN.id h u, 0, none⟩))).comp (Fr.drewN _ _ 1)
        have F5' : Fr [w2.heap.size] W4 wc := by rw [hcut]; exact F5
        replace P5 : PN wc w2.heap.size 2 (fun k => if k = 1 then some ⟨fstK h (BN.er h u), 0, false, some ⟨BN.id h u, 0, none⟩⟩ else if k = 0 then some ⟨fstK h (BN.er h t'), 0, false, some ⟨BN.id h t, 0, none⟩⟩ else none) := by rw [hcut]; exact P5
        have b5 := HW4.out.2.2.fr F5' (by simp; omega)
        have FX : Fr [tb] w2 wc := (HW.out.1.trans HW4.out.1 (fun x hx => .inl hx) (fun x hx => .inr (by simp at hx; omega))).trans F5' (fun x hx => .inl hx) (fun x hx => .inr (by simp at hx; omega))
        have g0 : wc.cell? ⟨tb, 0, none⟩ = some (.pointer (some ⟨BN.id h t, 0, none⟩)) := b5.cell 0
        have g1 : wc.cell? ⟨tb, 1, none⟩ = some (.int .i64 (h : Nat)) := b5.cell 1
        have gf := b5.frozen
        have hid := HRR.out.idq
        have HS := Lib.hid (step_some HH.out HRR.out HPQ.out.1 HPQ.out.2 FX b5 P5 (by rw [hid]; rfl) rfl)
        clear hcut P5 F5 F5' b5 FX x0 x1 x2 y1 y2 y3 y4 fz ft hid
        go_wp2_with fail
        go_end0
        exact ⟨rfl, HS.out⟩
end Go.Proofs.Ytjbelfbfhcmgeaa.Kp
