/- B-trees: New, Get, Remove, Each. -/
import Derived.Test.YtjbelfbfhcmgeaaBtT
import Derived.Test.YtjbelfbfhcmgeaaBtJ
import Derived.Deep.RegionLaw
namespace Go.Proofs.Ytjbelfbfhcmgeaa.Kp
open Go.RowKit Bt

theorem TB.sr {w : World} {tb : Nat} {f : Value} {xs : List Int} {B : Nat} {s : BNT} {n : Int} (H : TB w tb f xs B s n) : SR w tb f xs := H.ti.sr
theorem TB.below {w w' : World} {tb : Nat} {f : Value} {xs : List Int} {B : Nat} {s : BNT} {n : Int} (H : TB w tb f xs B s n) (hb : Below w.heap.size w w') : TB w' tb f xs B s n :=
  H.fr (Fr.of_below (S := []) hb) (by simp) (fun _ _ h => by cases h) (fun _ h => by cases h)
set_option maxRecDepth 100000 in
set_option maxHeartbeats 1600000 in
theorem bget_calls (xs : List Int) (tb : Nat) (f : Value) (B : Nat) (s : BNT) (n : Int) (key : Int) (w : World) (H : TB w tb f xs B s n) (hh : s.1 ≤ 100000000000) :
    Calls Try.prog 39 #[.pointer (some ⟨tb, 0, none⟩), .int .i64 key] w fun e w' => e = .returned (.tuple #[.int .i64 (getE (rankOf xs) s.1 s.er.2 key).1, .bool (getE (rankOf xs) s.1 s.er.2 key).2]) ∧ Below w.heap.size w w' := by
  obtain ⟨h, t⟩ := s
  have c0 : w.cell? ⟨tb, 0, none⟩ = some (.pointer (some ⟨BN.id h t, 0, none⟩)) := H.blk.cell 0
  have c1 : w.cell? ⟨tb, 1, none⟩ = some (.int .i64 (h : Nat)) := H.blk.cell 1
  have HC := Lib.hid (fun m => (search_calls xs tb f key h (by simp only at hh; omega)).at_ t (w.drewN m) (H.sr.drewN m) (H.inn.below (Below.drewN w m)) H.wf)
  obtain ⟨q, hq⟩ : ∃ q, q = getE (rankOf xs) h (BN.er h t) key := ⟨_, rfl⟩
  rw [← hq] at HC
  show Calls _ _ _ _ fun e w' => e = .returned (.tuple #[.int .i64 (getE (rankOf xs) h (BN.er h t) key).1, .bool (getE (rankOf xs) h (BN.er h t) key).2]) ∧ Below w.heap.size w w'
  rw [← hq]
  clear H hq
  go_enter Try.func39, Try.ntmps39
  go_wp2_with fail
  go_region_with (go_at_call 57; refine (HC.out 1).mono ?_; rintro e w3 ⟨rfl, B3⟩)
  all_goals
    go_wp2_with fail
    go_ret2
    exact ⟨rfl, (Below.drewN w 1).trans B3⟩
set_option maxRecDepth 100000 in
set_option maxHeartbeats 1600000 in
theorem beach_calls (xs : List Int) (tb : Nat) (f : Value) (B base xb : Nat) (n0 : Int) (b : Bool) (s : BNT) (n : Int) (ks vs : List Int) (w : World) (H : TB w tb f xs B s n) (hh : s.1 ≤ 100000000000) (hx : ∀ i ∈ s.ids, i < base ∧ i ∉ [xb]) (hT : TellX w base xb n0 b ks vs) (h1 : ks.length + s.er.flat.length ≤ 100000000000) (h2 : vs.length + s.er.flat.length ≤ 100000000000) :
    Calls Try.prog 40 #[.pointer (some ⟨tb, 0, none⟩), .func (.func 41) #[] #[.pointer (some ⟨xb, 0, none⟩)]] w fun e w' => e = .returned (.tuple #[]) ∧ TellX w' base xb n0 b (ks ++ lk s.er.flat) (vs ++ lv s.er.flat) ∧ FrB base [xb] w w' := by
  obtain ⟨h, t⟩ := s
  have c0 : w.cell? ⟨tb, 0, none⟩ = some (.pointer (some ⟨BN.id h t, 0, none⟩)) := H.blk.cell 0
  have c1 : w.cell? ⟨tb, 1, none⟩ = some (.int .i64 (h : Nat)) := H.blk.cell 1
  have HC := Lib.hid (fun m => (each_calls' tb base xb n0 b h (by simp only at hh; omega)).at_ t ks vs (w.drewN m) (H.inn.below (Below.drewN w m)) hx (TellX.drewN hT m) h1 h2)
  obtain ⟨q, hq⟩ : ∃ q, q = flat h (BN.er h t) := ⟨_, rfl⟩
  rw [← hq] at HC
  show Calls _ _ _ _ fun e w' => e = .returned (.tuple #[]) ∧ TellX w' base xb n0 b (ks ++ lk (flat h (BN.er h t))) (vs ++ lv (flat h (BN.er h t))) ∧ FrB base [xb] w w'
  rw [← hq]
  clear H hq hx hT h1 h2
  go_enter Try.func40, Try.ntmps40
  go_wp2_with fail
  go_region_with (go_at_call 58; refine (HC.out 1).mono ?_; rintro e w3 ⟨rfl, T3, F3⟩)
  all_goals
    go_wp2_with fail
    go_end0
    exact ⟨rfl, T3, (FrB.of_below (Below.drewN w 1)).trans F3⟩
set_option maxRecDepth 100000 in
set_option maxHeartbeats 3200000 in
theorem brem_calls (xs : List Int) (tb : Nat) (f : Value) (B : Nat) (s : BNT) (n : Int) (key : Int) (w : World) (H : TB w tb f xs B s n) (hh : s.1 ≤ 100000000000) (hn : -100000000000 ≤ n ∧ n ≤ 100000000000) :
    Calls Try.prog 38 #[.pointer (some ⟨tb, 0, none⟩), .int .i64 key] w fun e w' => e = .returned (.tuple #[]) ∧ ∃ n', (n' = n ∨ n' = n - 1) ∧ StepB w tb f xs B s (remB (rankOf xs) key s.er) n' w' := by
  obtain ⟨h, t⟩ := s
  have HG := Lib.hid (bget_calls xs tb f B ⟨h, t⟩ n key w H hh)
  have HH := Lib.hid H
  obtain ⟨n1, n2⟩ := hn
  have hrb : remB (rankOf xs) key (BNT.er ⟨h, t⟩) = if (getE (rankOf xs) h (BN.er h t) key).2 then ⟨h, (insE (rankOf xs) h (BN.er h t) key 0 false).1⟩ else BNT.er ⟨h, t⟩ := rfl
  have hno := fun hg => ins_has (r := rankOf xs) (k := key) (v := 0) (b := false) h (BN.er h t) hg
  have HR := Lib.hid (And.intro hrb hno)
  have hgs : getE (rankOf xs) (⟨h, t⟩ : BNT).1 (BNT.er ⟨h, t⟩).2 key = getE (rankOf xs) h (BN.er h t) key := rfl
  rw [hgs] at HG
  clear hrb hno H hgs
  obtain ⟨q, hq⟩ : ∃ q, q = getE (rankOf xs) h (BN.er h t) key := ⟨_, rfl⟩
  rw [← hq] at HG HR
  have HQ := Lib.hid hq
  clear hq
  obtain ⟨v, ok⟩ := q
  go_enter Try.func38, Try.ntmps38
  go_wp2_with fail
  refine HG.out.mono ?_
  rintro e w1 ⟨rfl, hb1⟩
  have H1 := Lib.hid (HH.out.below hb1)
  have HB1 := Lib.hid hb1
  clear hb1
  cases ok with
  | false =>
    go_wp2_with fail
    refine bodyPost_ret (results_none rfl _ _ _) rfl ?_
    refine ⟨rfl, n, .inl rfl, ⟨h, t⟩, H1.out, ?_, fun i hi => .inl hi, Fr.of_below HB1.out⟩
    rw [HR.out.1]; rfl
  | true =>
    have c0 : w1.cell? ⟨tb, 0, none⟩ = some (.pointer (some ⟨BN.id h t, 0, none⟩)) := H1.out.blk.cell 0
    have c1 : w1.cell? ⟨tb, 1, none⟩ = some (.int .i64 (h : Nat)) := H1.out.blk.cell 1
    have HC := Lib.hid (fun m => (ins_calls xs tb f B key 0 false h (by have : h ≤ 100000000000 := hh; omega)).at_ t (w1.drewN m) (H1.out.ti.fr (Fr.drewN _ w1 m) H1.out.ti.hS H1.out.ti.htb) (H1.out.inn.below (Below.drewN w1 m)) H1.out.nd H1.out.wf)
    have hnn := HR.out.2 rfl
    have HN := Lib.hid hnn
    clear hnn
    go_wp2_with fail
    go_still_tail 11, (by kernel_rfl)
    change wpList _ _ _ _ _ (w1.drewN 1)
    go_wp2_with fail
    (with_reducible refine (HC.out 1).mono ?_)
    intro en w2 hP
    obtain ⟨t', u, hen, hR⟩ := hP
    have hun : u = none := by
      have := hR.eru
      rw [HN.out] at this
      cases u with
      | none => rfl
      | some u => cases this
    subst hun
    have HRR := Lib.hid hR
    have hb2 : Blk w2 tb _ _ := (H1.out.blk.drewN 1).fr hR.fr H1.out.htb
    have d2 : w2.cell? ⟨tb, 2, none⟩ = some (.int .i64 n) := hb2.cell 2
    have fd := hb2.frozen
    clear hR hb2 c0 c1
    replace hen : en = .returned (.pointer none) := hen
    subst hen
    go_wp2_with fail
    go_end0
    have hw2 := (insE_flat (r := rankOf xs) (k := key) (v := 0) (b := false) h (BN.er h t) HH.out.wf).2
    have hq : insE (rankOf xs) h (BN.er h t) key 0 false = ((insE (rankOf xs) h (BN.er h t) key 0 false).1, none) := Prod.ext rfl HN.out
    rw [hq] at hw2
    obtain ⟨s', g1, g2, g3, g4⟩ := step_none (n' := n - 1) H1.out HRR.out hw2.1
    refine ⟨rfl, n - 1, .inr rfl, s', g1, ?_, fun i hi => (g3 i hi).imp id (fun h => Nat.le_trans HB1.out.size h), (Fr.of_below HB1.out).comp g4⟩
    rw [g2, HR.out.1]; rfl
/-- a new tree. -/
theorem bnew_calls (xs : List Int) (f : Value) (B : Nat) (w : World) (hf : LessOk w B f xs) (hB : B ≤ w.heap.size) :
    Calls Try.prog 28 #[f] w fun e w' => ∃ tb s, e = .returned (.pointer (some ⟨tb, 0, none⟩)) ∧ TB w' tb f xs B s 0 ∧ s.er = newB ∧ Below w.heap.size w w' := by
  obtain ⟨g, hg⟩ : ∃ fn fi ca, f = .func fn fi ca := by obtain ⟨_, _, rfl, _⟩ := hf; exact ⟨_, _, _, rfl⟩
  obtain ⟨fi, ca, rfl⟩ := hg
  have HF := Lib.hid hf
  clear hf
  go_enter Try.func28, Try.ntmps28
  go_wp2_with fail
  have hsz : (w.alloc (Obj.cells Try.zeroCells87 87)).heap.size = w.heap.size + 1 := by simp
  have hb := Blk.new (w.alloc (Obj.cells Try.zeroCells87 87)) #[.pointer (some ⟨w.heap.size, 0, none⟩), .int .i64 0, .int .i64 0, .func g fi ca] 89
  rw [hsz] at hb
  have hn := (Blk.new w Try.zeroCells87 87).alloc (Obj.cells #[.pointer (some ⟨w.heap.size, 0, none⟩), .int .i64 0, .int .i64 0, .func g fi ca] 89)
  have hbe := ((Below.refl _ w).alloc (Nat.le_refl _) (Obj.cells Try.zeroCells87 87)).alloc (by simp) (Obj.cells #[.pointer (some ⟨w.heap.size, 0, none⟩), .int .i64 0, .int .i64 0, .func g fi ca] 89)
  go_ret
  have hnd : ND ((w.alloc (Obj.cells Try.zeroCells87 87)).alloc (Obj.cells #[.pointer (some ⟨w.heap.size, 0, none⟩), .int .i64 0, .int .i64 0, .func g fi ca] 89)) w.heap.size [] :=
    ⟨_, hn, z257_size, z257_one, by kernel_rfl, fun i e h => by simp at h, by simp⟩
  obtain ⟨s, hs⟩ : ∃ s : BNT, s = ⟨0, (w.heap.size, [])⟩ := ⟨_, rfl⟩
  have hids : s.ids = [w.heap.size] := by rw [hs]; rfl
  have her : s.er = newB := by rw [hs]; rfl
  refine ⟨w.heap.size + 1, s, rfl, ⟨?_, ?_, by rw [hids]; simp, fun i hi => ?_, by rw [hids]; simp, HF.out.below (hbe.mono hB), by omega, ?_⟩, her, hbe⟩
  · rw [hs]; exact hb
  · rw [hs]; exact ⟨[], hnd, rfl⟩
  · rw [hids] at hi; simp at hi; omega
  · rw [her]; exact newB_wf
end Go.Proofs.Ytjbelfbfhcmgeaa.Kp
