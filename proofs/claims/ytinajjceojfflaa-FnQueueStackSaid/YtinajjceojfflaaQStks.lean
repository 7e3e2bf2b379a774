/- laws.FnQueueStack. -/
import Derived.Test.YtinajjceojfflaaQStk
import Derived.Test.YtinajjceojfflaaQRuns
import Derived.Deep.LoopGhost
namespace Go.Proofs.Ytinajjceojfflaa
open Go.RowKit

theorem Try.infoStep : (Try.prog.info? 28).map (fun i => (i.zero, i.size, i.bytes)) = some (some (.agg #[.int .i64 0, .int .i64 0, .int .i64 0, .int .i64 0]), 4, 32) := by kernel_rfl
theorem SlI.cell {w : World} {B n c : Nat} {A : Option Addr} {xs : List Int} (h : SlI w B (.slice A n c) xs) {i : Nat} (hi : i < xs.length) : ∃ b off, A = some ⟨b, off, none⟩ ∧ b < B ∧ w.cell? ⟨b, off + i, none⟩ = some (.int .i64 (xs.getD i 0)) := by
  obtain ⟨b, off, e, _, hb, hc⟩ := SlI.at_ h hi
  refine ⟨b, off, e, hb, ?_⟩
  rw [hc, List.getD_eq_getElem?_getD, List.getElem?_eq_getElem hi]; rfl
set_option maxRecDepth 100000 in
set_option maxHeartbeats 6400000 in
theorem queueStack_calls (kv : Value) (ks : List Int) (w : World) (hk0 : SlI w w.heap.size kv ks) :
    Calls Try.prog 8 #[kv] w fun e w' => e = .returned (.bool true) ∧ Below w.heap.size w w' := by
  obtain ⟨i0, hi0, hz0, hz1, hz2⟩ := info_parts Try.infoStep
  obtain ⟨A, c, rfl⟩ := hk0.form
  have HL := Lib.hid hk0
  clear hk0
  by_cases b3 : (ks.length : Int) ≤ 2147483647
  case neg =>
    go_enter Try.func8, Try.ntmps8
    go_wp2
    go_ret
    exact ⟨rfl, Below.refl _ _⟩
  go_enter Try.func8, Try.ntmps8
  go_wp2_with fail
  go_loopw [3, 4] (fun v i wr => ∃ k : Nat, k ≤ ks.length ∧ i = .int .i64 (k : Nat) ∧ Hid (wr.ownsRow w.heap.size 28 4 v k (((ks.take k).map pushD).flatMap stepCell) ∧ Below w.heap.size w wr)) (fun _ i _ => ks.length - (intOf i).toNat)
  case atStart => exact ⟨0, Nat.zero_le _, rfl, ⟨World.ownsRow_nil _ _ _ _, Below.refl _ _⟩⟩
  case round =>
    obtain ⟨k, hk, rfl, HK⟩ := hrel
    by_cases hlt : k < ks.length
    · obtain ⟨b, off, rfl, hb, hc⟩ := HL.out.cell hlt
      have z := (HK.out.2.cell (p := ⟨b, off + k, none⟩) hb).trans hc
      have HY := Lib.hid (getD_get hlt)
      generalize ks.getD k 0 = y at *
      clear hc
      go_wp2_with (at_builtin; refine wpList_append_own _ rfl (.tmp 19) (.tmp 25) 23 rfl w.heap.size 28 i0 _ 4 32 Try.underlying23 hi0 hz0 hz1 hz2 rfl (by omega) u3 k _ rfl (HK.out.1.alloc _) ⟨wr.heap.size, 0, none⟩ 1 1 (stepCell (pushD y)) rfl rfl (news_blk (Blk.new wr _ _)) (by simp [stepCell, Value.oneCell']) (by unfold maxLen; omega) (by omega) (by have := HK.out.2.size; simp; omega) ?_; intro v' w3 hown' hgrow _)
      refine ⟨⟨k + 1, by omega, by go_num, ?_⟩, by simp [intOf]; omega⟩
      have e : ks.take (k + 1) = ks.take k ++ [y] := by
        rw [List.take_succ_eq_append_getElem hlt]; congr; exact (List.getElem?_eq_some_iff.1 HY.out).2
      rw [e, List.map_append, List.map_singleton, flat_snoc]
      exact ⟨hown', (HK.out.2.alloc (HK.out.2.size) _).grown hgrow (by have := HK.out.2.size; simp; omega) (fun g hg => (HK.out.1.lt g hg).1)⟩
    · have : k = ks.length := by omega
      subst this
      have HP := Lib.hid HK.out
      rw [List.take_length] at HP
      clear HK
      generalize hv3 : u3 = v0 at *
      clear hv3 hk hlt
      go_wp2_with fail
      go_loopw [3, 5] (fun v i w5 => ∃ k : Nat, k ≤ ks.length ∧ i = .int .i64 (k : Nat) ∧ Hid (w5.ownsRow w.heap.size 28 4 v (ks.length + k) ((ks.map pushD ++ List.replicate k popD).flatMap stepCell) ∧ Below w.heap.size w w5)) (fun _ i _ => ks.length - (intOf i).toNat)
      case atStart => exact ⟨0, Nat.zero_le _, rfl, ⟨by simpa using HP.out.1, HP.out.2⟩⟩
      case round =>
        obtain ⟨k, hk, rfl, HK⟩ := hrel
        by_cases hlt : k < ks.length
        · go_wp2_with (at_builtin; refine wpList_append_own _ rfl (.tmp 33) (.tmp 35) 23 rfl w.heap.size 28 i0 _ 4 32 Try.underlying23 hi0 hz0 hz1 hz2 rfl (by omega) u3 (ks.length + k) _ rfl (HK.out.1.alloc _) ⟨wr.heap.size, 0, none⟩ 1 1 (stepCell popD) rfl rfl (news_blk (Blk.new wr _ _)) (by simp [stepCell, Value.oneCell']) (by unfold maxLen; omega) (by omega) (by have := HK.out.2.size; simp; omega) ?_; intro v' w3 hown' hgrow _)
          refine ⟨⟨k + 1, by omega, by go_num, ?_⟩, by simp [intOf]; omega⟩
          have e : List.replicate (k + 1) popD = List.replicate k popD ++ [popD] := List.replicate_succ' ..
          rw [e, ← List.append_assoc, flat_snoc, ← Nat.add_assoc]
          exact ⟨hown', (HK.out.2.alloc (HK.out.2.size) _).grown hgrow (by have := HK.out.2.size; simp; omega) (fun g hg => (HK.out.1.lt g hg).1)⟩
        · have : k = ks.length := by omega
          subst this
          have hs := own_SlC (l := throughD ks) stepCell_len (B := w.heap.size) (w := wr) (v := u3) (T := 28) (by rw [through_len]; exact HK.out.1)
          have HS := Lib.hid hs
          obtain ⟨A1, c1, e1⟩ := hs.form
          have HB := Lib.hid HK.out.2
          clear HK HP hs hk hlt
          rw [through_len] at e1
          subst e1
          clear i0 hi0 hz0 hz1 hz2
          go_wp2_with fail
          refine (queueRun_calls _ (throughD ks) wr HS.out (by rw [through_len]; omega)).mono ?_
          rintro e w1 ⟨v1, rfl, s1, hb1⟩
          have HB1 := Lib.hid (HB.out.trans (hb1.mono HB.out.size))
          have HS1 := Lib.hid s1
          have HS2 := Lib.hid ((HS.out.below hb1).mono hb1.size)
          clear hb1 s1
          go_wp2_with fail
          refine (stackRun_calls _ (throughD ks) w1 HS2.out (by rw [through_len]; omega) (through_one ks)).mono ?_
          rintro e w2 ⟨v2, rfl, s2, hb2⟩
          have HB2 := Lib.hid (HB1.out.trans (hb2.mono HB1.out.size))
          have HS3 := Lib.hid (And.intro (HS1.out.below hb2) s2)
          obtain ⟨A2, c2, e2⟩ := HS1.out.form
          obtain ⟨A3, c3, e3⟩ := s2.form
          rw [runQ_len, through_len] at e2
          rw [runS_len, through_len] at e3
          subst e2 e3
          clear hb2 s2
          have t0 : ((ks.length : Int) + ks.length != (ks.length : Int) + ks.length) = false := bne_self_eq_false _
          have t1 : (((ks.length + ks.length : Nat) : Int) != ((ks.length + ks.length : Nat) : Int)) = false := bne_self_eq_false _
          go_wp2_with fail
          clear t0 t1
          go_loopw [9] (fun i w6 => ∃ k : Nat, k ≤ ks.length ∧ i = .int .i64 (k : Nat) ∧ Hid (∃ n, w6 = w2.drewN n)) (fun i _ => ks.length - (intOf i).toNat)
          case atStart => exact ⟨0, Nat.zero_le _, rfl, ⟨0, rfl⟩⟩
          case round =>
            obtain ⟨k, hk, rfl, HK⟩ := hrel
            by_cases hlt : k < ks.length
            · have hr := HK.out
              obtain ⟨m, hm⟩ := hr
              obtain ⟨g1, ka1, kc1, va1, vc1, rfl, _, _, q10, q11, _⟩ := (HS3.out.1.drewN m).at_ (outQ_at ks hlt)
              obtain ⟨g2, ka2, kc2, va2, vc2, rfl, _, _, q20, _⟩ := (HS3.out.2.drewN m).at_ (outS_at ks hlt)
              obtain ⟨b, off, rfl, hb, hc0⟩ := HL.out.cell hlt
              obtain ⟨b', off', eb, hb', hc1⟩ := HL.out.cell (i := ks.length - 1 - k) (by omega)
              cases eb
              have z0 := ((HB2.out.trans (Below.drewN _ m)).cell (p := ⟨b, off + k, none⟩) hb).trans hc0
              have z1 := ((HB2.out.trans (Below.drewN _ m)).cell (p := ⟨b, off + (ks.length - 1 - k), none⟩) hb).trans hc1
              rw [← hm] at q10 q11 q20 z0 z1
              simp only [Nat.zero_add] at q10 q11 q20
              clear hm hc0 hc1
              have t1 : (ks.getD k 0 != ks.getD k 0) = false := bne_self_eq_false _
              have t2 : (ks.getD (ks.length - 1 - k) 0 != ks.getD (ks.length - 1 - k) 0) = false := bne_self_eq_false _
              generalize ks.getD k 0 = y at q10 z0 t1
              generalize ks.getD (ks.length - 1 - k) 0 = y2 at q20 z1 t2
              have p1 : (0 : Int) ≤ (k : Int) := by omega
              have p2 : (k : Int) < (ks.length : Int) := by omega
              have p3 : (0 : Int) ≤ (ks.length : Int) + (k : Int) := by omega
              have p4 : (ks.length : Int) + (k : Int) < (ks.length : Int) + (ks.length : Int) := by omega
              have p5 : (0 : Int) ≤ (ks.length : Int) - 1 - (k : Int) := by omega
              have p6 : (ks.length : Int) - 1 - (k : Int) < (ks.length : Int) := by omega
              have n1 : ((ks.length : Int) + (k : Int)).toNat = ks.length + k := by omega
              have n2 : ((ks.length : Int) - 1 - (k : Int)).toNat = ks.length - 1 - k := by omega
              have x1 : IntKind.i64.wrap ((ks.length : Int) + (k : Int)) = (ks.length : Int) + (k : Int) := IntWalk.i64_in _ (by omega)
              have x2 : IntKind.i64.wrap ((ks.length : Int) - 1) = (ks.length : Int) - 1 := IntWalk.i64_in _ (by omega)
              have x3 : IntKind.i64.wrap ((ks.length : Int) - 1 - (k : Int)) = (ks.length : Int) - 1 - (k : Int) := IntWalk.i64_in _ (by omega)
              go_wp2_with fail
              go_quiet (fail)
              clear x1 x2 x3 n1 n2
              go_wp2_with fail
              exact ⟨⟨k + 1, by omega, by go_num, by obtain ⟨n, hn⟩ := HK.out; rw [hn]; exact ⟨_, World.drewN_drewN _ _ _⟩⟩, by simp [intOf]; omega⟩
            · have hr := HK.out
              obtain ⟨m, rfl⟩ := hr
              have : k = ks.length := by omega
              subst this
              have HB3 := Lib.hid ((HB2.out.trans (Below.drewN _ m)).alloc HB2.out.size (Obj.cells #[.int .i64 0, .int .i64 3, .int .i64 0, .int .i64 0] 28))
              have HO := Lib.hid (one_step (w2.drewN m) ⟨0, 3, 0, 0⟩)
              go_wp2_with fail
              refine (queueRun_calls _ [⟨0, 3, 0, 0⟩] _ HO.out (by simp)).mono ?_
              rintro e w4 ⟨v4, rfl, s4, hb4⟩
              obtain ⟨A6, c6, e6⟩ := s4.form
              rw [runQ_len] at e6
              replace e6 : v4 = .slice A6 1 c6 := e6
              subst e6
              have HB4 := Lib.hid (HB3.out.trans (hb4.mono HB3.out.size))
              clear s4 hb4
              go_wp2_with fail
              go_ret
              exact ⟨rfl, HB4.out⟩
end Go.Proofs.Ytinajjceojfflaa
