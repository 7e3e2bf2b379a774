/- laws.FnHeapDown. -/
import Derived.Test.YtinajjceojfflaaHeapDp
import Derived.Test.YtinajjceojfflaaHeapK0
namespace Go.Proofs.Ytinajjceojfflaa
open Go.RowKit HeapP PFnHeapDown Go.Proofs.YtinajjceojfflaaW.PrintWords
attribute [local go_sem ↓] Go.wp_at_zero Go.wp_at_succ

theorem OwnI.toC {w : World} {B g cap : Nat} {xs : List Int} (h : OwnI w B g cap xs) : SlI w w.heap.size (.slice (some ⟨g, 0, none⟩) xs.length cap) xs :=
  own_SlC int1_len (by rw [int1_flat]; exact h)
set_option maxHeartbeats 800000 in
theorem zzData_calls {ts : List Int} {f : Value} {B hb g cap : Nat} {xs : List Int} (w : World) (h : HeapR ts f B hb w g cap xs) (hn : xs.length ≤ 1000000000000) :
    Calls Try.prog 31 #[.pointer (some ⟨hb, 0, none⟩)] w fun e w' => ∃ g cap, e = .returned (.slice (some ⟨g, 0, none⟩) xs.length cap) ∧ OwnI w' w.heap.size g cap xs ∧ Below w.heap.size w w' := by
  obtain ⟨i0, hi0, hz0, hz1, hz2⟩ := info_parts Try.infoInt
  have HA := Lib.hid h.own.toC
  have c0 : (w.alloc (Obj.cells #[] 3)).cell? ⟨hb, 0, none⟩ = some (.slice (some ⟨g, 0, none⟩) xs.length cap) := (h.blk.alloc _).cell 0
  clear h
  go_enter Try.func31, Try.ntmps31
  go_wp2_with (at_builtin; refine wpList_append_some int1_len _ rfl (.tmp 3) (.tmp 7) 22 rfl w.heap.size 3 i0 _ 8 Try.underlying22 hi0 hz0 hz1 hz2 rfl (by omega) _ _ 0 [] rfl (own_empty w _ 1) _ xs rfl (HA.out.below ((Below.refl _ w).alloc (Nat.le_refl _) _)) (fun m c e => by cases e) (by intro a; simp [int1, Value.oneCell']) (by unfold maxLen; omega) (by omega) (by simp) ?_; intro g1 cap1 w1 hown1 hgrow1)
  go_ret
  have e1 : 0 + xs.length = xs.length := by omega
  have e2 : ([] : List Value) ++ xs.flatMap int1 = xs.map i64v := by rw [int1_flat]; rfl
  rw [e1, e2] at hown1
  exact ⟨g1, cap1, by rw [← e1]; rfl, hown1, ((Below.refl _ w).alloc (Nat.le_refl _) _).grown hgrow1 (by simp) (fun g hg => (own_empty w 3 1).lt g hg |>.1)⟩
set_option maxHeartbeats 1600000 in
theorem heapData_calls (ts : List Int) (tv fv : Value) (how : Int) (first : List Int) (w : World) (ht : SlR w w.heap.size tv (ts.map i64v)) (hfi : SlI w w.heap.size fv first) (hnone : ∀ m c, fv = .slice none m c → m = 0 ∧ c = 0) (hn : first.length ≤ 10000000000) :
    Calls Try.prog 13 #[tv, .int .i64 how, fv, .slice none 0 0] w fun e w' => ∃ g cap, e = .returned (.slice (some ⟨g, 0, none⟩) (heapOfP ts how first).length cap) ∧ OwnI w' w.heap.size g cap (heapOfP ts how first) ∧ Below w.heap.size w w' := by
  have hpl : (heapOfP ts how first).length = first.length := by
    unfold heapOfP; split
    · rw [foldl_push_len]; simp
    · rw [fromP_len]
  obtain ⟨A, c, rfl⟩ := ht.form
  obtain ⟨A2, c2, rfl⟩ := hfi.form
  rw [List.length_map] at *
  have HO := Lib.hid (heapOf_calls ts _ _ how first w ht hfi hnone hn)
  clear ht hfi hnone
  go_enter Try.func13, Try.ntmps13
  go_wp2_with fail
  refine HO.out.mono ?_
  rintro e w1 ⟨hb, f, B, rfl, ⟨g, cap, hR⟩, hB1, hB2, hb1⟩
  have HR := Lib.hid hR
  have HB := Lib.hid hb1
  have HP := Lib.hid hpl
  clear hR HO hpl hb1
  go_wp2_with fail
  go_loopw [18] (fun i wr => i = .int .i64 0 ∧ wr = w1) (fun _ _ => 0)
  case atStart => exact ⟨rfl, rfl⟩
  case round =>
    obtain ⟨rfl, rfl⟩ := hrel
    go_wp2_with fail
    refine (zzData_calls wr HR.out (by rw [HP.out]; omega)).mono ?_
    rintro e w2 ⟨g2, cap2, rfl, o2, hb2⟩
    have h2 := And.intro o2 (HB.out.trans (hb2.mono HB.out.size))
    have H2 := Lib.hid h2
    have HS := Lib.hid HB.out.size
    clear o2 hb2 h2
    go_wp2_with fail
    go_ret
    obtain ⟨cur, h2, h1, h3, h4, h5, h6⟩ := H2.out.1.blk
    exact ⟨g2, cap2, rfl, OwnI.mk h2 (Nat.le_trans HS.out h1) h3 h4 h5 h6, H2.out.2⟩
set_option maxHeartbeats 800000 in
theorem zzDown_calls (ts : List Int) (f : Value) (B0 B g cap : Nat) (xs : List Int) (i0 : Nat) (w : World) (hf : LessG w B0 g f ts) (hO : OwnI w B g cap xs) (hn : xs.length ≤ 1000000000000) (hi : i0 ≤ 1000000000000) :
    Calls Try.prog 33 #[.slice (some ⟨g, 0, none⟩) xs.length cap, .int .i64 i0, f] w fun e w' => e = .returned (.tuple #[]) ∧ OwnI w' B g cap (downP (rankOf ts) xs.length xs i0) ∧ Fr [g] w w' := by
  have H := Lib.hid (down_callsG ts f B0 B g cap xs i0 w hf hO hn hi)
  obtain ⟨tb, tv, rfl, _⟩ := hf
  clear hO
  go_enter Try.func33, Try.ntmps33
  go_wp2_with fail
  refine H.out.mono ?_
  rintro e w1 ⟨rfl, h1, h2⟩
  go_wp2_with fail
  go_end0
  exact ⟨rfl, h1, h2⟩
theorem lessMakeG (xs : List Int) (ov : Value) (B g : Nat) (w : World) (ho : SlR w B ov (xs.map i64v)) (hB : B ≤ g) (hg : g < w.heap.size) :
    Calls Try.prog 34 #[ov] w fun e w' => ∃ f, e = .returned f ∧ LessG w' B g f xs ∧ Below w.heap.size w w' := by
  obtain ⟨A, c, rfl⟩ := ho.form
  rw [List.length_map] at *
  have H := Lib.hid ho
  clear ho
  go_enter Try.func34, Try.ntmps34
  go_wp2
  go_ret
  have hb : Below w.heap.size w (w.alloc (Obj.cells #[.slice A xs.length c] 22)) := (Below.refl _ _).alloc (Nat.le_refl _) _
  exact ⟨_, rfl, ⟨w.heap.size, _, rfl, by omega, (Blk.new w #[.slice A xs.length c] 22).cell 0, H.out.below (hb.mono (by omega)), hB⟩, hb⟩
set_option maxHeartbeats 1600000 in
theorem heapDown_calls (ts : List Int) (tv av : Value) (xs : List Int) (i : Nat) (w : World) (ht : SlR w w.heap.size tv (ts.map i64v)) (ha : SlI w w.heap.size av xs) (hnone : ∀ m c, av = .slice none m c → m = 0 ∧ c = 0) (hn : xs.length ≤ 100000000000) (hi : i ≤ 100000000000) :
    Calls Try.prog 14 #[tv, av, .int .i64 i] w fun e w' => ∃ g cap, e = .returned (.slice (some ⟨g, 0, none⟩) xs.length cap) ∧ OwnI w' w.heap.size g cap (downP (rankOf ts) xs.length xs i) ∧ Below w.heap.size w w' := by
  obtain ⟨A, c, rfl⟩ := ht.form
  obtain ⟨A2, c2, rfl⟩ := ha.form
  rw [List.length_map] at *
  have HC := Lib.hid (copied_calls xs _ w ha hnone (by omega))
  have HT := Lib.hid ht
  clear ht ha hnone
  go_enter Try.func14, Try.ntmps14
  go_wp2_with fail
  refine HC.out.mono ?_
  rintro e w1 ⟨g, cap, rfl, o1, hb1⟩
  have H1 := Lib.hid (And.intro o1 hb1)
  clear o1 hb1
  go_wp2_with fail
  have hgB : w.heap.size ≤ g := by obtain ⟨cur, h2, h1, _⟩ := H1.out.1.blk; exact h1
  have hgl : g < w1.heap.size := by obtain ⟨cur, h2, h1, _⟩ := H1.out.1.blk; exact h2.lt
  refine (lessMakeG ts _ w.heap.size g w1 (HT.out.below H1.out.2) hgB hgl).mono ?_
  rintro e w2 ⟨f, rfl, lg, hb2⟩
  have o2 : OwnI w2 w.heap.size g cap xs := H1.out.1.fr (Fr.of_below hb2) (S := []) (by simp)
  have hz := zzDown_calls ts f w.heap.size w.heap.size g cap xs i w2 lg o2 (by omega) (by omega)
  obtain ⟨tb, tv', rfl, _⟩ := lg
  have HZ := Lib.hid hz
  have H2 := Lib.hid (H1.out.2.trans (hb2.mono H1.out.2.size))
  have HG := Lib.hid hgB
  clear hz hb2 o2 hgB hgl
  go_wp2_with fail
  refine HZ.out.mono ?_
  rintro e w3 ⟨rfl, o3, f3⟩
  have H3 := Lib.hid (And.intro o3 f3)
  clear o3 f3
  go_wp2_with fail
  go_ret
  exact ⟨g, cap, rfl, H3.out.1, H2.out.trans (H3.out.2.below (by simpa using HG.out) H2.out.size)⟩
theorem rankS_calls {B : Nat} {A : Option Addr} {c : Nat} {ts : List Int} (w : World) (ht : SlR w B (.slice A ts.length c) (ts.map i64v)) (hl : ts.length ≤ 4611686018427387903) (a : Int) :
    Calls Try.prog 15 #[.slice A ts.length c, .int .i64 a] w fun e w' => e = .returned (.int .i64 (rankOf ts a)) ∧ ∃ n, w' = w.drewN n := by
  refine (spec_Rank.calls A c ts a (rankOf ts a) w (SlI.kd ht.toI (by omega)) (SlC.le ht.toI) (rank_fD _ _ hl)).mono ?_
  rintro e w' ⟨rfl, h⟩
  exact ⟨rfl, h.out⟩
set_option maxRecDepth 100000 in
set_option maxHeartbeats 1600000 in
theorem heapTree_calls (ts xs : List Int) (A A1 : Option Addr) (c c1 B B1 : Nat) (w : World) (ht : SlR w B (.slice A ts.length c) (ts.map i64v)) (hx : SlI w B1 (.slice A1 xs.length c1) xs) (hH : HeapFrom (rankOf ts) 0 xs) (hl : ts.length ≤ 4611686018427387903) (hn : xs.length ≤ 100000000000) :
    Calls Try.prog 16 #[.slice A ts.length c, .slice A1 xs.length c1] w fun e w' => e = .returned (.bool true) ∧ ∃ n, w' = w.drewN n := by
  have HT := Lib.hid ht
  have HX := Lib.hid hx
  have HH := Lib.hid hH
  clear ht hx hH
  go_enter Try.func16, Try.ntmps16
  go_wp2_with fail
  go_loopw [5] (fun i wr => ∃ k : Nat, 1 ≤ k ∧ k ≤ max xs.length 1 ∧ i = .int .i64 k ∧ ∃ n, wr = w.drewN n) (fun i _ => xs.length + 1 - (intOf i).toNat)
  case atStart => exact ⟨1, Nat.le_refl _, by omega, rfl, 0, rfl⟩
  case round =>
    obtain ⟨k, hk1, hk, rfl, nd, ew⟩ := hrel
    replace HT := Lib.hid (show SlR wr B _ _ by rw [ew]; exact HT.out.drewN nd)
    by_cases hlt : k < xs.length
    · obtain ⟨j, hj⟩ : ∃ j, (k - 1) / 2 = j := ⟨_, rfl⟩
      have hr := HH.out k hlt (by omega) (Nat.zero_le _)
      rw [hj] at hr
      have hjl : j < xs.length := by omega
      obtain ⟨b, off, rfl, _, _, q0⟩ := SlI.at_ HX.out hlt
      obtain ⟨b', off', e', _, _, q1⟩ := SlI.at_ HX.out hjl
      cases e'
      rw [← getI_at hlt] at q0
      rw [← getI_at hjl] at q1
      replace q0 : wr.cell? ⟨b, off + k, none⟩ = some (.int .i64 (getI xs k)) := by rw [ew]; exact q0
      replace q1 : wr.cell? ⟨b, off + j, none⟩ = some (.int .i64 (getI xs j)) := by rw [ew]; exact q1
      have e1 : (k : Int) - 1 = ((k - 1 : Nat) : Int) := by omega
      have e2 : ((k - 1 : Nat) : Int) / 2 = (j : Int) := by omega
      have r0 : (0 : Int) ≤ (j : Int) := by omega
      have r1 : (j : Int) < (xs.length : Int) := by omega
      have r2 : (0 : Int) ≤ (k : Int) := by omega
      have r3 : (k : Int) < (xs.length : Int) := by omega
      have r4 : decide (rankOf ts (getI xs k) < rankOf ts (getI xs j)) = false := decide_eq_false (by omega)
      have HJ := Lib.hid hj
      have HE := Lib.hid ew
      clear hj ew hr hjl
      go_wp2_with fail
      go_quiet ((go_at_call 15; exact Calls.quiet_of (rankS_calls _ (HT.out.drewN _) hl _)))
      go_wp2_with fail
      refine ⟨⟨k + 1, by omega, by omega, by go_num, nd + nq, ?_⟩, by simp [intOf]; omega⟩
      rw [HE.out]; exact World.drewN_drewN _ _ _
    · go_wp2_with fail
      go_ret
      exact ⟨rfl, nd, by first | rfl | exact ew⟩
end Go.Proofs.Ytinajjceojfflaa
