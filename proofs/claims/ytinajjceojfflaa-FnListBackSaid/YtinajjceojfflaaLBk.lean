/- laws.FnListBack. -/
import Derived.Test.YtinajjceojfflaaLFit
import Derived.Test.YtinajjceojfflaaQRuns
import Derived.Deep.QuietTactic
import Derived.BigQuiet
namespace Go.Proofs.Ytinajjceojfflaa.Kp
open Go.RowKit

/-- the script with the two walks behind it. -/
def backS (l : List StepD) : List StepD := (fitR l).2 ++ [⟨0, 5, 0, 0⟩, ⟨0, 6, 0, 0⟩]
theorem backS_len (l : List StepD) : (backS l).length = l.length + 2 := by
  obtain ⟨_, _, h⟩ := fit_ok _ l rfl
  unfold backS; simp [h]
/-- what the two walks tell. -/
theorem backS_two {l : List StepD} {ds : List SeenD} (h : TellL (backS l) ds) : ∃ d5 d6, ds[l.length]? = some d5 ∧ ds[l.length + 1]? = some d6 ∧ d6.keys = d5.keys.reverse ∧ ds.length = l.length + 2 ∧ d5.keys.length ≤ l.length := by
  obtain ⟨h1, h2, h3⟩ := fit_ok _ l rfl
  have hd : ds.length = l.length + 2 := by rw [h.1, backS_len]
  have q5 : ds[l.length]? = some (ds[l.length]'(by omega)) := List.getElem?_eq_getElem _
  have q6 : ds[l.length + 1]? = some (ds[l.length + 1]'(by omega)) := List.getElem?_eq_getElem _
  have k5 := h.2 l.length ⟨0, 5, 0, 0⟩ _ (by unfold backS; rw [List.getElem?_append_right (by omega), h3, Nat.sub_self]; rfl) q5
  have k6 := h.2 (l.length + 1) ⟨0, 6, 0, 0⟩ _ (by unfold backS; rw [List.getElem?_append_right (by omega), h3, Nat.add_sub_cancel_left]; rfl) q6
  have t5 : (backS l).take l.length = (fitR l).2 := by
    unfold backS; rw [← h3, List.take_left']; rfl
  have t6 : (backS l).take (l.length + 1) = (fitR l).2 ++ [⟨0, 5, 0, 0⟩] := by
    unfold backS; rw [← h3, List.take_append, List.take_of_length_le (by omega)]; simp
  rw [t5] at k5
  rw [t6, (fit_two l).2] at k6
  have e5 := k5.1 rfl
  have e6 := k6.2 rfl
  refine ⟨_, _, q5, q6, by rw [e6, e5], hd, ?_⟩
  rw [e5]
  have := stL_len (fitR l).2
  unfold rowV
  rw [List.length_map]
  omega
theorem rev_at {xs : List Int} {k : Nat} (h : k < xs.length) : xs.reverse.getD (xs.length - 1 - k) 0 = xs.getD k 0 := by
  rw [List.getD_eq_getElem?_getD, List.getD_eq_getElem?_getD, List.getElem?_reverse (by omega)]
  congr 2
  omega
theorem IntSl.cell {w : World} {n c : Nat} {A : Option Addr} {xs : List Int} (h : IntSl w (.slice A n c) xs) {i : Nat} (hi : i < xs.length) : ∃ b off, A = some ⟨b, off, none⟩ ∧ b < w.heap.size ∧ w.cell? ⟨b, off + i, none⟩ = some (.int .i64 (xs.getD i 0)) := by
  obtain ⟨A', cap, e, h⟩ := h
  cases e
  rcases h with rfl | ⟨b, off, cur, rfl, h1, h2, h3⟩
  · simp at hi
  · exact ⟨b, off, rfl, (show Blk w b cur _ from h2).lt, ((show Blk w b cur _ from h2).cell _).trans (h3 i hi)⟩
set_option maxRecDepth 100000 in
set_option maxHeartbeats 6400000 in
theorem listBack_calls (lv : Value) (l : List StepD) (w : World) (hl : SlC 4 stepCell w w.heap.size lv l) :
    Calls Try.prog 7 #[lv] w fun e w' => e = .returned (.bool true) ∧ Below w.heap.size w w' := by
  obtain ⟨i0, hi0, hz0, hz1, hz2⟩ := info_parts Try.infoStep
  obtain ⟨A, c, rfl⟩ := hl.form
  have HL := Lib.hid hl
  clear hl
  by_cases b3 : (l.length : Int) ≤ 2147483647
  case neg =>
    go_enter Try.func7, Try.ntmps7
    go_wp2
    go_ret
    exact ⟨rfl, Below.refl _ _⟩
  go_enter Try.func7, Try.ntmps7
  go_wp2_with fail
  refine (lineFit_calls _ l w HL.out (by omega)).mono ?_
  rintro e w1 ⟨v1, rfl, o1, hb1⟩
  have O1 := Lib.hid o1
  have HB1 := Lib.hid hb1
  obtain ⟨A1, c1, rfl⟩ := own_form o1
  clear o1 hb1
  go_wp2_with (at_builtin; refine wpList_append_own _ rfl (.tmp 11) (.tmp 14) 23 rfl w.heap.size 28 i0 _ 4 32 Try.underlying23 hi0 hz0 hz1 hz2 rfl (by omega) _ l.length _ rfl (O1.out.alloc _) ⟨w1.heap.size, 0, none⟩ 2 2 (stepCell ⟨0, 5, 0, 0⟩ ++ stepCell ⟨0, 6, 0, 0⟩) rfl rfl (news_blk (Blk.new w1 _ _)) (by simp [stepCell, Value.oneCell']) (by unfold maxLen; omega) (by omega) (by have := HB1.out.size; simp; omega) ?_; intro v2 w2 o2 g2 _)
  have hs := own_SlC (l := backS l) stepCell_len (B := w.heap.size) (w := w2) (v := v2) (T := 28) (by rw [backS_len]; unfold backS; rw [List.flatMap_append]; exact o2)
  have HS := Lib.hid hs
  obtain ⟨A2, c2, e2⟩ := hs.form
  rw [backS_len] at e2
  subst e2
  have HB2 := Lib.hid ((HB1.out.alloc HB1.out.size _).grown g2 (by have := HB1.out.size; simp; omega) (fun g hg => (O1.out.lt g hg).1))
  clear O1 HB1 o2 g2 hs i0 hi0 hz0 hz1 hz2
  go_wp2_with fail
  refine (listRun_calls _ (backS l) w2 HS.out (by rw [backS_len]; omega) (fit_two l).1).mono ?_
  rintro e w3 ⟨v3, ds, rfl, s3, t3, hb3⟩
  obtain ⟨d5, d6, q5, q6, ek, el, en⟩ := backS_two t3
  obtain ⟨A3, c3, e3⟩ := s3.form
  rw [el] at e3
  subst e3
  have HB3 := Lib.hid (HB2.out.trans (hb3.mono HB2.out.size))
  obtain ⟨g1, ka1, kc1, va1, vc1, rfl, _, _, _, _, z5, _, i5, _⟩ := s3.at_ q5
  obtain ⟨g2, ka2, kc2, va2, vc2, e4, _, _, _, _, z6, _, i6, _⟩ := s3.at_ q6
  cases e4
  have EK := Lib.hid ek
  have hk6 : d6.keys.length = d5.keys.length := by rw [ek, List.length_reverse]
  rw [hk6] at z6 i6
  rw [ek] at i6
  have I5 := Lib.hid i5
  have I6 := Lib.hid i6
  generalize d5.keys = ks at *
  clear ek i5 i6 hk6 s3 t3 q5 q6 el hb3 HB2 HS HL
  simp only [Nat.zero_add] at z5 z6
  have t0 : ((l.length : Int) + 2 != (l.length : Int) + 2) = false := bne_self_eq_false _
  have t1 : (((l.length + 2 : Nat) : Int) != ((l.length + 2 : Nat) : Int)) = false := bne_self_eq_false _
  have p0 : (0 : Int) ≤ (l.length : Int) + 2 - 2 := by omega
  have p1 : (0 : Int) ≤ (l.length : Int) + 2 - 1 := by omega
  have p2 : (l.length : Int) + 2 - 2 < (l.length : Int) + 2 := by omega
  have p3 : (l.length : Int) + 2 - 1 < (l.length : Int) + 2 := by omega
  have n0 : ((l.length : Int) + 2 - 2).toNat = l.length := by omega
  have n1 : ((l.length : Int) + 2 - 1).toNat = l.length + 1 := by omega
  have x0 : IntKind.i64.wrap ((l.length : Int) + 2 - 2) = (l.length : Int) + 2 - 2 := IntWalk.i64_in _ (by omega)
  have x1 : IntKind.i64.wrap ((l.length : Int) + 2 - 1) = (l.length : Int) + 2 - 1 := IntWalk.i64_in _ (by omega)
  go_wp2_with fail
  go_quiet (fail)
  clear x0 x1 n0 n1 p0 p1 p2 p3 t0 t1 z5 z6
  have t2 : ((ks.length : Int) != (ks.length : Int)) = false := bne_self_eq_false _
  go_wp2_with fail
  clear t2
  go_loopw [6] (fun i wx => ∃ k : Nat, k ≤ ks.length ∧ i = .int .i64 (k : Nat) ∧ Hid (∃ n, wx = w3.drewN n)) (fun i _ => ks.length - (intOf i).toNat)
  case atStart => exact ⟨0, Nat.zero_le _, rfl, ⟨nq, rfl⟩⟩
  case round =>
    obtain ⟨k, hk, rfl, HK⟩ := hrel
    by_cases hlt : k < ks.length
    · have hr := HK.out
      obtain ⟨m, hm⟩ := hr
      obtain ⟨b1, off1, rfl, hl0, hc0⟩ := IntSl.cell I5.out hlt
      obtain ⟨b2, off2, rfl, hl1, hc1⟩ := IntSl.cell I6.out (i := ks.length - 1 - k) (by rw [List.length_reverse]; omega)
      rw [rev_at hlt] at hc1
      have z0 := ((Below.drewN (B := w3.heap.size) w3 m).cell (p := ⟨b1, off1 + k, none⟩) hl0).trans hc0
      have z1 := ((Below.drewN (B := w3.heap.size) w3 m).cell (p := ⟨b2, off2 + (ks.length - 1 - k), none⟩) hl1).trans hc1
      rw [← hm] at z0 z1
      clear hm hc0 hc1
      have t1 : (ks.getD k 0 != ks.getD k 0) = false := bne_self_eq_false _
      generalize ks.getD k 0 = y at z0 z1 t1
      have p1 : (0 : Int) ≤ (k : Int) := by omega
      have p2 : (k : Int) < (ks.length : Int) := by omega
      have p5 : (0 : Int) ≤ (ks.length : Int) - 1 - (k : Int) := by omega
      have p6 : (ks.length : Int) - 1 - (k : Int) < (ks.length : Int) := by omega
      have n2 : ((ks.length : Int) - 1 - (k : Int)).toNat = ks.length - 1 - k := by omega
      have x2 : IntKind.i64.wrap ((ks.length : Int) - 1) = (ks.length : Int) - 1 := IntWalk.i64_in _ (by omega)
      have x3 : IntKind.i64.wrap ((ks.length : Int) - 1 - (k : Int)) = (ks.length : Int) - 1 - (k : Int) := IntWalk.i64_in _ (by omega)
      go_wp2_with fail
      go_quiet (fail)
      clear x2 x3 n2
      go_wp2_with fail
      exact ⟨⟨k + 1, by omega, by go_num, by obtain ⟨n, hn⟩ := HK.out; rw [hn]; exact ⟨_, World.drewN_drewN _ _ _⟩⟩, by simp [intOf]; omega⟩
    · have hr := HK.out
      obtain ⟨m, rfl⟩ := hr
      have : k = ks.length := by omega
      subst this
      go_wp2_with fail
      go_ret
      exact ⟨rfl, HB3.out.trans (Below.drewN _ m)⟩
end Go.Proofs.Ytinajjceojfflaa.Kp
