/- FnAvlGoesOn: the walk of the law itself. -/
import Derived.Test.YtpnmgfiifaljjaaSame1
import Derived.Test.YtpnmgfiifaljjaaLow1
namespace Go.Proofs.Ytpnmgfiifaljjaa
open Go.RowKit
attribute [local go_sem ↓] Go.wp_at_zero Go.wp_at_succ

theorem runA_append (xs : List Int) : ∀ (a b : List ActD) (t : AT), runA xs t (a ++ b) = ((runA xs (runA xs t a).1 b).1, (runA xs t a).2 ++ (runA xs (runA xs t a).1 b).2)
  | [], _, _ => rfl
  | x :: a, b, t => by simp only [List.cons_append, runA, runA_append xs a b]
theorem run_er (xs : List Int) : ∀ (l : List ActD) (t : AT), t.er = t → (runA xs t l).1.er = (runA xs t l).1
  | [], _, h => h
  | a :: l, t, h => by
    have h1 := (er_step xs a 0 t).1
    rw [h] at h1
    exact run_er xs l _ h1
theorem step_vs (xs : List Int) (a : ActD) (t : AT) (h : t.Vs) : (stepA xs a 0 t).1.Vs := by
  unfold stepA
  split
  · exact add_vs xs a.key 0 ⟨_, rfl⟩ h
  · split
    · exact rem_vs xs a.key h
    · repeat' split
      all_goals exact h
theorem run_ok (xs : List Int) : ∀ (l : List ActD) (t : AT), t.Ok → t.Vs → (runA xs t l).1.Ok ∧ (runA xs t l).1.Vs ∧ (runA xs t l).1.ids.length ≤ t.ids.length + l.length
  | [], _, h, v => ⟨h, v, by simp [runA]⟩
  | a :: l, t, h, v => by
    obtain ⟨h1, h2⟩ := step_ok xs a t h
    obtain ⟨r1, r2, r3⟩ := run_ok xs l _ h1 (step_vs xs a t v)
    exact ⟨r1, r2, by simp only [runA, List.length_cons]; omega⟩
def actCell (a : ActD) : List Value := [.int .i64 a.act, .int .i64 a.key, .int .i64 a.val]
theorem actCell_len (a : ActD) : (actCell a).length = 3 := rfl
theorem SlA.toC {w : World} {B : Nat} {v : Value} {l : List ActD} (h : SlA w B v l) : SlC 3 actCell w B v l := by
  obtain ⟨A, cap, e, h⟩ := h.is
  refine ⟨A, cap, e, h.imp id ?_⟩
  rintro ⟨b, off, e, h1, h3, h4, h5⟩
  refine ⟨b, off, e, h1, h3, h4, fun i a hi j u hj => ?_⟩
  obtain ⟨a0, a1, a2⟩ := h5 i a hi
  match j, hj with
  | 0, hj => simp only [actCell, List.getElem?_cons_zero, Option.some.injEq] at hj; rw [← hj]; exact a0
  | 1, hj => simp only [actCell, List.getElem?_cons_succ, List.getElem?_cons_zero, Option.some.injEq] at hj; rw [← hj]; exact a1
  | 2, hj => simp only [actCell, List.getElem?_cons_succ, List.getElem?_cons_zero, Option.some.injEq] at hj; rw [← hj]; exact a2
  | j + 3, hj => simp [actCell] at hj
theorem TR.at_ {w : World} {B : Nat} : ∀ {ds : List ToldD} {cs : List Value} {i : Nat} {d : ToldD}, TR w B ds cs → ds[i]? = some d → ∃ ka kc va vc, cs[i * 4]? = some (.int .i64 d.val) ∧ cs[i * 4 + 1]? = some (.bool d.ok) ∧
    cs[i * 4 + 2]? = some (.slice ka d.keys.length kc) ∧ cs[i * 4 + 3]? = some (.slice va d.vals.length vc) ∧ w.ownsRow B 3 1 (.slice ka d.keys.length kc) d.keys.length (d.keys.map i64v) ∧ w.ownsRow B 3 1 (.slice va d.vals.length vc) d.vals.length (d.vals.map i64v)
  | [], _, _, _, _, h => by simp at h
  | _ :: _, cs, 0, d, ⟨ka, kc, va, vc, rest, e, h1, h2, _⟩, h => by simp at h; subst h; rw [e]; exact ⟨ka, kc, va, vc, rfl, rfl, rfl, rfl, h1, h2⟩
  | _ :: ds, cs, i + 1, d, ⟨ka, kc, va, vc, rest, e, _, _, h3⟩, h => by
    have := TR.at_ h3 (by simpa using h)
    rw [e, show (i + 1) * 4 = i * 4 + 1 + 1 + 1 + 1 by omega]
    exact this
theorem own_len {w : World} {B s n : Nat} {T : TypeId} {v : Value} {xs : List Value} (h : w.ownsRow B T s v n xs) : n ≤ 9223372036854775807 := by
  rcases h.2 with ⟨_, h0⟩ | ⟨g, cap, cur, e, h1, h2, h3, h4, _⟩
  · omega
  · unfold maxLen at h4; omega
theorem own_I {w : World} {B : Nat} {v : Value} {xs : List Int} (h : w.ownsRow B 3 1 v xs.length (xs.map i64v)) : SlI w w.heap.size v xs := own_SlC int1_len (by rw [int1_flat]; exact h)
/-- what a slice that tells holds at a place. -/
structure ToldAt (w : World) (g : Nat) (i : Nat) (d : ToldD) (ka va : Option Addr) (kc vc : Nat) : Prop where
  c0 : w.cell? ⟨g, i * 4, none⟩ = some (.int .i64 d.val)
  c1 : w.cell? ⟨g, i * 4 + 1, none⟩ = some (.bool d.ok)
  c2 : w.cell? ⟨g, i * 4 + 2, none⟩ = some (.slice ka d.keys.length kc)
  c3 : w.cell? ⟨g, i * 4 + 3, none⟩ = some (.slice va d.vals.length vc)
  keys : SlI w w.heap.size (.slice ka d.keys.length kc) d.keys
  vals : SlI w w.heap.size (.slice va d.vals.length vc) d.vals
  kl : d.keys.length ≤ 9223372036854775807
  vl : d.vals.length ≤ 9223372036854775807
  lt : g < w.heap.size
theorem Tolds.at_ {w : World} {B : Nat} {v : Value} {ds : List ToldD} (h : Tolds w B v ds) {n : Nat} (hl : ds.length = n) : ∃ A c, v = .slice A n c ∧ ∀ i d, ds[i]? = some d → ∃ g ka va kc vc, A = some ⟨g, 0, none⟩ ∧ n ≤ c ∧ ToldAt w g i d ka va kc vc := by
  subst hl
  obtain ⟨cs, ho, ht⟩ := h
  rcases ho.2 with ⟨e, h0⟩ | ⟨g, cap, cur, e, h1, h2, h3, h4, h5, h6⟩
  · exact ⟨none, 0, by rw [e, h0], fun i d hi => by rw [List.length_eq_zero_iff.1 h0] at hi; simp at hi⟩
  · refine ⟨_, cap, e, fun i d hi => ?_⟩
    have hil : i < ds.length := (List.getElem?_eq_some_iff.1 hi).1
    obtain ⟨ka, kc, va, vc, a0, a1, a2, a3, o1, o2⟩ := ht.at_ hi
    have key : ∀ j x, j < ds.length * 4 → cs[j]? = some x → w.cell? ⟨g, j, none⟩ = some x := by
      intro j x hj hx
      rw [← h6, List.getElem?_take_of_lt hj] at hx
      have : w.cell? ⟨g, j, none⟩ = cur[j]? := (show Blk w g cur _ from h2).cell j
      rw [this, ← hx]; simp
    exact ⟨g, ka, va, kc, vc, rfl, h3, key _ _ (by omega) a0, key _ _ (by omega) a1, key _ _ (by omega) a2, key _ _ (by omega) a3, own_I o1, own_I o2, own_len o1, own_len o2, (Array.getElem?_eq_some_iff.1 h2).1⟩
theorem ToldAt.below {w w' : World} {g i : Nat} {d : ToldD} {ka va : Option Addr} {kc vc : Nat} (h : ToldAt w g i d ka va kc vc) (hb : Below w.heap.size w w') : ToldAt w' g i d ka va kc vc :=
  ⟨(hb.cell (p := ⟨g, i * 4, none⟩) h.lt).trans h.c0, (hb.cell (p := ⟨g, i * 4 + 1, none⟩) h.lt).trans h.c1, (hb.cell (p := ⟨g, i * 4 + 2, none⟩) h.lt).trans h.c2, (hb.cell (p := ⟨g, i * 4 + 3, none⟩) h.lt).trans h.c3,
    (h.keys.below hb).mono hb.size, (h.vals.below hb).mono hb.size, h.kl, h.vl, Nat.lt_of_lt_of_le h.lt hb.size⟩
theorem own_empty (w : World) (T : TypeId) (s : Nat) : (w.alloc (.cells #[] T)).ownsRow w.heap.size T s (.slice (some ⟨w.heap.size, 0, none⟩) 0 0) 0 [] :=
  ⟨by simp, .inr ⟨w.heap.size, 0, #[], rfl, Nat.le_refl _, Blk.new w #[] T, Nat.le_refl _, by unfold maxLen; omega, by simp, by simp⟩⟩
set_option maxRecDepth 100000 in
set_option maxHeartbeats 3200000 in
theorem goesOn_calls (xs : List Int) (ov av bv : Value) (la lb : List ActD) (w : World) (ho : SlR w w.heap.size ov (xs.map i64v)) (ha : SlA w w.heap.size av la) (hb : SlA w w.heap.size bv lb)
    (hna : ∀ m c, av = .slice none m c → m = 0 ∧ c = 0) (hnb : ∀ m c, bv = .slice none m c → m = 0 ∧ c = 0) :
    Calls Try.prog 6 #[ov, av, bv] w fun e w' => e = .returned (.bool true) ∧ Below w.heap.size w w' := by
  obtain ⟨A, c, rfl⟩ := ho.form
  obtain ⟨A2, c2, rfl⟩ := ha.form
  obtain ⟨A3, c3, rfl⟩ := hb.form
  rw [List.length_map] at *
  have HO := Lib.hid ho
  have HA := Lib.hid ha
  have HB := Lib.hid hb
  have HNA := Lib.hid hna
  have HNB := Lib.hid hnb
  clear ho ha hb hna hnb
  by_cases b1 : (xs.length : Int) ≤ 2147483647
  case neg =>
    go_enter Try.func6, Try.ntmps6
    go_wp2
    go_ret
    exact ⟨rfl, Below.refl _ _⟩
  by_cases b2 : (la.length : Int) ≤ 2147483647
  case neg =>
    go_enter Try.func6, Try.ntmps6
    go_wp2
    go_ret
    exact ⟨rfl, Below.refl _ _⟩
  by_cases b3 : (lb.length : Int) ≤ 2147483647
  case neg =>
    go_enter Try.func6, Try.ntmps6
    go_wp2
    go_ret
    exact ⟨rfl, Below.refl _ _⟩
  obtain ⟨i0, hi0, hz0, hz1, hz2⟩ := info_parts Try.infoAct
  go_enter Try.func6, Try.ntmps6
  go_wp2_with (at_builtin; first
    | (refine wpList_append_C actCell_len _ rfl (.tmp 25) (.tmp 26) 27 rfl w.heap.size 29 i0 _ 24 Try.underlying27 hi0 hz0 hz1 hz2 rfl (by omega) _ 0 [] rfl (own_empty w _ 3) _ la rfl (HA.out.toC.below ((Below.refl _ w).alloc (Nat.le_refl _) _)) HNA.out (by intro a; simp [actCell, Value.oneCell']) (by unfold maxLen; omega) (by omega) (by simp) ?_
       intro v1 w1 hown1 hgrow1
       have B1 : Below w.heap.size w w1 := ((Below.refl _ w).alloc (Nat.le_refl _) _).grown hgrow1 (by simp) (fun g hg => (own_empty w 29 3).lt g hg |>.1))
    | (refine wpList_append_C actCell_len _ rfl (.tmp 27) (.tmp 28) 27 rfl w.heap.size 29 i0 _ 24 Try.underlying27 hi0 hz0 hz1 hz2 rfl (by omega) _ _ _ rfl hown1 _ lb rfl (HB.out.toC.below B1) HNB.out (by intro a; simp [actCell, Value.oneCell']) (by unfold maxLen; omega) (by omega) B1.size ?_
       intro v2 w2 hown2 hgrow2))
  have B2 : Below w.heap.size w w2 := B1.grown hgrow2 B1.size (fun g hg => (hown1.lt g hg).1)
  have e2 : ([] : List Value) ++ la.flatMap actCell ++ lb.flatMap actCell = actCells (la ++ lb) := (actCells_append la lb).symm
  rw [e2, Nat.zero_add] at hown2
  have HS : SlA w2 w2.heap.size v2 (la ++ lb) := own_SlA (by rw [List.length_append]; exact hown2)
  obtain ⟨A5, c5, rfl⟩ := own_form hown2
  replace HS := Lib.hid HS
  clear hown1 hgrow1 hown2 hgrow2 e2 B1
  obtain ⟨N, hN⟩ : ∃ N, la.length + lb.length = N := ⟨_, rfl⟩
  rw [hN] at HS ⊢
  have HN := Lib.hid hN
  clear hN
  go_wp2_with fail
  refine (avlRun_calls xs _ _ (la ++ lb) w2 ((HO.out.below B2).mono B2.size) HS.out (by rw [List.length_append]; omega)).mono ?_
  rintro e w3 ⟨v3, rfl, T3, B3⟩
  obtain ⟨A6, c6, rfl, HT3⟩ := T3.at_ (n := N) (by unfold runN; rw [runA_len, List.length_append]; exact HN.out)
  replace HT3 := Lib.hid HT3
  have B23 := B2.trans (B3.mono B2.size)
  clear T3
  obtain ⟨hok, hvs, hlen⟩ := run_ok xs la .nil trivial trivial
  have her := run_er xs la .nil rfl
  have happ := runA_append xs la lb .nil
  generalize hT : (runA xs .nil la).1 = T at *
  simp only [AT.ids, List.length_nil, Nat.zero_add] at hlen
  have HR := Lib.hid (And.intro hok (And.intro hvs (And.intro her happ)))
  clear hok hvs her happ
  go_wp2_with fail
  refine (avlShape_calls xs _ _ la w3 ((HO.out.below B23).mono B23.size) ((HA.out.below B23).mono B23.size) (by omega)).mono ?_
  rintro e w4 ⟨v4, rfl, O4, B4⟩
  rw [hT] at O4
  have B24 := B23.trans (B4.mono B23.size)
  have S4 := Lib.hid (own_SlC brCells_len O4)
  clear O4
  obtain ⟨A7, c7, rfl⟩ := S4.out.form
  go_wp2_with fail
  refine (avlOn_calls xs _ _ _ T HR.out.2.1 HR.out.1 (by omega) lb w4 ((HO.out.below B24).mono B24.size) S4.out ((HB.out.below B24).mono B24.size) (by omega)).mono ?_
  rintro e w5 ⟨v5, v6, rfl, T5, O5, B5⟩
  rw [HR.out.2.2.1] at T5 O5
  have B25 := B24.trans (B5.mono B24.size)
  obtain ⟨A8, c8, rfl, HT5⟩ := T5.at_ (n := lb.length) (by rw [runA_len])
  replace HT5 := Lib.hid HT5
  have S5 := Lib.hid (own_SlC brCells_len O5)
  have L5 := Lib.hid (own_len O5)
  clear T5 O5
  have hne1 : ((N : Int) != (N : Int)) = false := by simp
  have hne2 : ((lb.length : Int) != (lb.length : Int)) = false := by simp
  go_wp2_with fail
  refine (avlShape_calls xs _ _ (la ++ lb) w5 ((HO.out.below B25).mono B25.size) ((HS.out.below (B3.trans ((B4.mono B3.size).trans (B5.mono (by have := B3.size; have := B4.size; omega))))).mono (by have := B3.size; have := B4.size; have := B5.size; omega)) (by rw [List.length_append]; omega)).mono ?_
  rintro e w6 ⟨v7, rfl, O7, B6⟩
  have B26 := B25.trans (B6.mono B25.size)
  rw [HR.out.2.2.2] at O7
  have S7 := Lib.hid (own_SlC brCells_len O7)
  clear O7
  go_wp2_with fail
  refine (shapeSame_calls _ v6 v7 _ _ w6 (S5.out.below B6) S7.out L5.out).mono ?_
  rintro e w7 ⟨rfl, n7, rfl⟩
  have B27 := B26.trans (Below.drewN w6 n7)
  have HB6 := Lib.hid (B6.trans (Below.drewN w6 n7))
  have HB5 := Lib.hid B5
  have HB4 := Lib.hid B4
  generalize w6.drewN n7 = W at *
  clear S4 S5 S7 L5 hlen hT B2 B3 B23 B24 B25 B26 B4 B5 B6 HS HO HA HB HNA HNB hne1 hne2
  go_wp2_with fail
  go_loopw [11] (fun i wr => ∃ j : Nat, j ≤ lb.length ∧ i = .int .i64 j ∧ Hid (Below W.heap.size W wr)) (fun i _ => lb.length - (intOf i).toNat)
  case atStart => exact ⟨0, Nat.zero_le _, rfl, Below.refl _ _⟩
  case round =>
    obtain ⟨j, hj, rfl, HW⟩ := hrel
    by_cases hlt : j < lb.length
    · have hlt2 : j < (runA xs T lb).2.length := by rw [runA_len]; exact hlt
      have e1 : (runA xs T lb).2[j]? = some ((runA xs T lb).2[j]) := List.getElem?_eq_getElem hlt2
      have e2 : (runN xs (la ++ lb))[la.length + j]? = some ((runA xs T lb).2[j]) := by
        unfold runN
        rw [HR.out.2.2.2, ← e1, List.getElem?_append_right (by rw [runA_len]; omega), runA_len]
        congr 1; omega
      generalize (runA xs T lb).2[j] = d at *
      obtain ⟨g5, ka, va, kc, vc, rfl, l5, t5⟩ := HT5.out _ _ e1
      obtain ⟨g3, ka2, va2, kc2, vc2, rfl, l3, t3⟩ := HT3.out _ _ e2
      have k6 := HB6.out.size
      have k5 := HB5.out.size
      have k4 := HB4.out.size
      have t5' : ToldAt wr g5 j d ka va kc vc := (t5.below HB6.out).below HW.out
      have t3' : ToldAt wr g3 (la.length + j) d ka2 va2 kc2 vc2 := (((t3.below HB4.out).below HB5.out).below HB6.out).below HW.out
      have K := Lib.hid (fun W' (hb : Below wr.heap.size wr W') => And.intro (And.intro (t5'.below hb).c0 (And.intro (t5'.below hb).c1 (And.intro (t5'.below hb).c2 (t5'.below hb).c3))) (And.intro (t3'.below hb).c0 (And.intro (t3'.below hb).c1 (And.intro (t3'.below hb).c2 (t3'.below hb).c3))))
      have t5d := t5'.below (Below.drewN wr 1)
      have t3d := t3'.below (Below.drewN wr 1)
      have TS := Lib.hid (treeSame_calls d ka va ka2 va2 kc vc kc2 vc2 wr.drew.heap.size wr.drew (Nat.le_refl _) t5d.keys t5d.vals t3d.keys t3d.vals t5d.kl t5d.vl)
      have p0 : (0 : Int) ≤ (j : Int) := by omega
      have p1 : (j : Int) < (lb.length : Int) := by omega
      have p2 : (0 : Int) ≤ (la.length : Int) + (j : Int) := by omega
      have p3 : (la.length : Int) + (j : Int) < (N : Int) := by have := HN.out; omega
      have p4 : ((la.length : Int) + (j : Int)).toNat = la.length + j := by omega
      have p5 : IntKind.i64.wrap ((la.length : Int) + (j : Int)) = (la.length : Int) + (j : Int) := IntWalk.i64_in _ (by omega)
      clear e1 e2 t5 t3 t5' t3' t5d t3d hlt2
      go_wp2_with fail
      go_region_held3 (fun w' => (w'.cell? ⟨g5, j * 4, none⟩ = some (.int .i64 d.val) ∧ w'.cell? ⟨g5, j * 4 + 1, none⟩ = some (.bool d.ok) ∧ w'.cell? ⟨g5, j * 4 + 2, none⟩ = some (.slice ka d.keys.length kc) ∧ w'.cell? ⟨g5, j * 4 + 3, none⟩ = some (.slice va d.vals.length vc)) ∧
          w'.cell? ⟨g3, (la.length + j) * 4, none⟩ = some (.int .i64 d.val) ∧ w'.cell? ⟨g3, (la.length + j) * 4 + 1, none⟩ = some (.bool d.ok) ∧ w'.cell? ⟨g3, (la.length + j) * 4 + 2, none⟩ = some (.slice ka2 d.keys.length kc2) ∧ w'.cell? ⟨g3, (la.length + j) * 4 + 3, none⟩ = some (.slice va2 d.vals.length vc2))
        (first | exact K.out _ (Below.drewN wr 1) | exact K.out _ ((Below.drewN wr 1).trans hb))
        ((go_at_call 19; refine TS.out.mono ?_; rintro e w8 ⟨rfl, hb⟩))
      go_wp2_with fail
      exact ⟨⟨j + 1, by omega, by go_num, HW.out.trans (((Below.drewN wr 1).trans hb).mono HW.out.size)⟩, by simp [intOf]; omega⟩
    · have e : j = lb.length := by omega
      subst e
      go_wp2_with fail
      go_ret
      exact ⟨rfl, B27.trans (HW.out.mono B27.size)⟩
end Go.Proofs.Ytpnmgfiifaljjaa
