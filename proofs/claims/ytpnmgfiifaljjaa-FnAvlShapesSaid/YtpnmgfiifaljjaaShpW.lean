/- laws.FnAvlShapes's walk. -/
import Derived.Test.YtpnmgfiifaljjaaSound
import Derived.Test.YtpnmgfiifaljjaaRows3
import Derived.Test.YtpnmgfiifaljjaaSame1
namespace Go.Proofs.Ytpnmgfiifaljjaa.Kp
open Go.RowKit Om

theorem NS.toI {w : World} {v : Value} {xs : List Int} (h : NS w v xs) : SlI w w.heap.size v xs := h.sl
theorem last_ht (xs : List Int) (l : List ActD) : runN xs (l ++ [⟨5, 0, 0⟩]) = runN xs l ++ [⟨(runA xs .nil l).1.ht, false, [], []⟩] := by
  unfold runN
  rw [runA_snoc]; rfl
theorem shape_top : ∀ t : AT, (t.shape = [] ∧ t.ht = 0) ∨ ∃ a rest, t.shape = a :: rest ∧ a.ht = t.ht
  | .nil => .inl ⟨rfl, rfl⟩
  | .node _ _ _ _ _ _ => .inr ⟨_, _, rfl, rfl⟩
/-- what is kept on the way: the two maps in their blocks. -/
structure Two (w w' : World) (p6 p8 : Nat) (k1 v1 k2 v2 : Value) (m : R) : Prop where
  b6 : Blk w' p6 #[k1, v1] 39
  b8 : Blk w' p8 #[k2, v2] 39
  t6 : TT w' k1 v1 m
  t8 : TT w' k2 v2 m
  bel : Below w.heap.size w w'
theorem Two.below {w w' w'' : World} {p6 p8 : Nat} {k1 v1 k2 v2 : Value} {m : R} (h : Two w w' p6 p8 k1 v1 k2 v2 m) (hb : Below w'.heap.size w' w'') : Two w w'' p6 p8 k1 v1 k2 v2 m :=
  ⟨h.b6.below hb h.b6.lt, h.b8.below hb h.b8.lt, h.t6.below hb, h.t8.below hb, h.bel.trans (hb.mono h.bel.size)⟩
set_option maxRecDepth 100000 in
set_option maxHeartbeats 6400000 in
theorem shapes_calls (xs : List Int) (ov av : Value) (l : List ActD) (w : World) (ho : SlR w w.heap.size ov (xs.map i64v)) (ha : SlA w w.heap.size av l) (hna : ∀ m c, av = .slice none m c → m = 0 ∧ c = 0) :
    Calls Try.prog 5 #[ov, av] w fun e w' => e = .returned (.bool true) ∧ Below w.heap.size w w' := by
  have hs := ho.form
  have hs2 := ha.form
  rw [List.length_map] at hs
  obtain ⟨A, c, rfl⟩ := hs
  obtain ⟨A2, c2, rfl⟩ := hs2
  have HO := Lib.hid ho
  have HA := Lib.hid ha
  have HNA := Lib.hid hna
  clear ho ha hna
  by_cases b1 : (xs.length : Int) ≤ 2147483647
  case neg =>
    go_enter Try.func5, Try.ntmps5
    go_wp2
    go_ret
    exact ⟨rfl, Below.refl _ _⟩
  by_cases b2 : (l.length : Int) ≤ 2147483647
  case neg =>
    go_enter Try.func5, Try.ntmps5
    go_wp2
    go_ret
    exact ⟨rfl, Below.refl _ _⟩
  obtain ⟨i0, hi0, hz0, hz1, hz2⟩ := info_parts Try.infoAct
  obtain ⟨hok, hvs, hlen⟩ := run_ok xs l .nil trivial trivial
  simp only [AT.ids, List.length_nil, Nat.zero_add] at hlen
  have hri := run_rises xs l .nil List.Pairwise.nil
  have hpr := run_prs xs l .nil List.Pairwise.nil
  have hlast := last_ht xs l
  have hsh := avlShape_calls xs (.slice A xs.length c) (.slice A2 l.length c2) l w HO.out HA.out (by omega)
  generalize (runA xs .nil l).1 = T at *
  have hsl := T.shape_len
  have htop := shape_top T
  have HSH := Lib.hid hsh
  have HT := Lib.hid (And.intro hok (And.intro hri (And.intro hpr hlast)))
  have HTP := Lib.hid htop
  have HLE := Lib.hid (And.intro hlen hsl)
  have hml : T.prs.length ≤ 5000000000 := by rw [← List.length_map (f := Prod.fst), ← AT.keys_prs, AT.keys_len]; omega
  clear hok hvs hlen hri hpr hlast hsh htop hsl
  go_enter Try.func5, Try.ntmps5
  go_wp2_with fail
  refine HSH.out.mono ?_
  rintro e w1 ⟨v1, rfl, o1, b1'⟩
  have HS := Lib.hid (own_SlC brCells_len o1)
  obtain ⟨A5, c5, rfl⟩ := kd_form o1
  have HB1 := Lib.hid b1'
  have HC := Lib.hid (sound_calls xs (.slice A xs.length c) (.slice A5 T.shape.length c5) T w1 HT.out.1 HT.out.2.1 (by have := HLE.out; omega) ((HO.out.below b1').mono b1'.size) HS.out)
  clear o1 b1' HSH
  go_wp2_with fail
  refine HC.out.mono ?_
  rintro e w2 ⟨kv1, vv1, rfl, t1, b2'⟩
  obtain ⟨K1, kc1, V1, vc1, rfl, rfl⟩ := t1.forms
  have hB2 := HB1.out.trans (b2'.mono HB1.out.size)
  have b3 : Below w2.heap.size w2 (w2.alloc (Obj.cells #[.slice K1 (List.length T.prs) kc1, .slice V1 (List.length T.prs) vc1] 39)) := (Below.refl _ _).alloc (Nat.le_refl _) _
  have HX2 := Lib.hid (And.intro (Blk.new w2 #[.slice K1 (List.length T.prs) kc1, .slice V1 (List.length T.prs) vc1] 39) (And.intro (t1.below b3) (And.intro (hB2.trans (b3.mono hB2.size)) (((HS.out.below b2').mono b2'.size |>.below b3).mono b3.size))))
  clear t1 b2' hB2 b3 HC HS HB1
  go_upto_region 5 with (fail)
  generalize w2.alloc (Obj.cells #[.slice K1 (List.length T.prs) kc1, .slice V1 (List.length T.prs) vc1] 39) = w3 at *
  generalize w2.heap.size = p6 at *
  have HC := Lib.hid (shapeRows_calls xs (.slice A xs.length c) (.slice A2 l.length c2) l w3 ((HO.out.below HX2.out.2.2.1).mono HX2.out.2.2.1.size) ((HA.out.below HX2.out.2.2.1).mono HX2.out.2.2.1.size) (by omega))
  go_wp2_with fail
  refine HC.out.mono ?_
  rintro e w4 ⟨kv2, vv2, ov2, rfl, t2, b4⟩
  have hpr := HT.out.2.2.1
  simp only [AT.prs] at hpr
  rw [← hpr] at t2
  clear hpr
  obtain ⟨K2, kc2, V2, vc2, rfl, rfl⟩ := t2.forms
  have b5 : Below w4.heap.size w4 (w4.alloc (Obj.cells #[.slice K2 (List.length T.prs) kc2, .slice V2 (List.length T.prs) vc2] 39)) := (Below.refl _ _).alloc (Nat.le_refl _) _
  have b45 := b4.trans (b5.mono b4.size)
  have HX5 := Lib.hid (Two.mk (HX2.out.1.below b45 HX2.out.1.lt) (Blk.new w4 #[.slice K2 (List.length T.prs) kc2, .slice V2 (List.length T.prs) vc2] 39) (HX2.out.2.1.below b45) (t2.below b5) (HX2.out.2.2.1.trans (b45.mono HX2.out.2.2.1.size)))
  have HS5 := Lib.hid ((HX2.out.2.2.2.below b45).mono b45.size)
  clear t2 b4 b5 b45 HC HX2
  go_upto_region 6 with (fail)
  generalize w4.alloc (Obj.cells #[.slice K2 (List.length T.prs) kc2, .slice V2 (List.length T.prs) vc2] 39) = w5 at *
  generalize w4.heap.size = p8 at *
  have hz5 := HX5.out.bel.size
  have hEm : Below w5.heap.size w5 (w5.alloc (Obj.cells #[] 29)) := (Below.refl _ _).alloc (Nat.le_refl _) _
  have HEM := Lib.hid (And.intro (own_mt w5 29 3) hEm)
  have HAC := Lib.hid (SlC.below ((HA.out.toC.below HX5.out.bel).mono hz5) hEm)
  have hl0 : (0 + l.length : Nat) = l.length := Nat.zero_add _
  clear hEm
  go_wp2_with (at_builtin; first
    | (refine wpList_append_C actCell_len _ rfl (.tmp 39) (.tmp 40) 27 rfl w5.heap.size 29 i0 _ 24 Try.underlying27 hi0 hz0 hz1 hz2 rfl (by omega) _ 0 [] rfl HEM.out.1 _ l rfl HAC.out HNA.out (by intro a; simp [actCell, Value.oneCell']) (by unfold maxLen; omega) (by omega) (by simp) ?_
       intro v6 w6 o6 g6
       have B6 : Below w5.heap.size w5 w6 := HEM.out.2.grown g6 HEM.out.2.size (fun g hg => (HEM.out.1.lt g hg).1)
       have s6 := B6.size)
    | (refine wpList_append_own _ rfl (.tmp 41) (.tmp 43) 27 rfl w5.heap.size 29 i0 _ 3 24 Try.underlying27 hi0 hz0 hz1 hz2 rfl (by omega) v6 (0 + l.length) _ rfl (o6.alloc _) ⟨w6.heap.size, 0, none⟩ 1 1 [.int .i64 5, .int .i64 0, .int .i64 0] rfl rfl (kd_news (Blk.new w6 _ _)) (by simp [Value.oneCell']) (by unfold maxLen; omega) (by omega) (by simp; omega) ?_
       intro v7 w7 o7 g7 _))
  have B7 : Below w5.heap.size w5 w7 := (B6.alloc s6 _).grown g7 (by simp; omega) (fun g hg => (o6.lt g hg).1)
  have e7 : [] ++ l.flatMap actCell ++ [.int .i64 5, .int .i64 0, .int .i64 0] = actCells (l ++ [⟨5, 0, 0⟩]) := by rw [actCells_append]; rfl
  rw [e7, Nat.zero_add] at o7
  have HX7 := Lib.hid (HX5.out.below B7)
  have HS7 := Lib.hid ((HS5.out.below B7).mono B7.size)
  have HAR := Lib.hid (avlRun_calls xs (.slice A xs.length c) v7 (l ++ [⟨5, 0, 0⟩]) w7 ((HO.out.below HX7.out.bel).mono HX7.out.bel.size) (own_SlA (by rw [List.length_append]; exact o7)) (by rw [List.length_append, List.length_singleton]; omega))
  clear o6 g6 B6 s6 o7 g7 B7 e7 HEM HAC HX5 HS5 hl0 hz5
  refine HAR.out.mono ?_
  rintro e w8 ⟨v8, rfl, T8, B8⟩
  rw [HT.out.2.2.2] at T8
  have HTL := Lib.hid (treeLast_calls _ v8 (runN xs l) ⟨T.ht, false, [], []⟩ w8 T8 (by unfold runN; rw [runA_len]; omega))
  obtain ⟨A8, c8, rfl⟩ : ∃ A c, v8 = .slice A ((runN xs l).length + 1) c := by
    obtain ⟨cs, ho, _⟩ := T8
    obtain ⟨A, c, e⟩ := kd_form ho
    exact ⟨A, c, by rw [e]; simp⟩
  have HX8 := Lib.hid (HX7.out.below B8)
  have HS8 := Lib.hid ((HS7.out.below B8).mono B8.size)
  clear T8 B8 HAR HX7 HS7
  go_wp2_with fail
  refine HTL.out.mono ?_
  rintro e w9 ⟨u, rfl, LA, B9⟩
  obtain ⟨ka, kc, va, vc, rfl, _⟩ := LA.is
  have b10 : Below w9.heap.size w9 (w9.alloc (Obj.cells #[.int .i64 T.ht, .bool false, .slice ka 0 kc, .slice va 0 vc] 33)) := (Below.refl _ _).alloc (Nat.le_refl _) _
  have b910 := B9.trans (b10.mono B9.size)
  have HXa := Lib.hid (HX8.out.below b910)
  have HSa := Lib.hid ((HS8.out.below b910).mono b910.size)
  have HU := Lib.hid (Blk.new w9 #[.int .i64 T.ht, .bool false, .slice ka 0 kc, .slice va 0 vc] 33)
  clear B9 b10 b910 HX8 HS8 HTL LA
  go_upto_region 7 with (fail)
  generalize w9.alloc (Obj.cells #[.int .i64 T.ht, .bool false, .slice ka 0 kc, .slice va 0 vc] 33) = wa at *
  generalize w9.heap.size = p10 at *
  have x60 := HXa.out.b6.cell 0
  have x61 := HXa.out.b6.cell 1
  have x80 := HXa.out.b8.cell 0
  have x81 := HXa.out.b8.cell 1
  have u0 := HU.out.cell 0
  have HK := Lib.hid (sameEq_calls (T.prs.map Prod.fst) (.slice K1 (List.length T.prs) kc1) (.slice K2 (List.length T.prs) kc2) wa.heap.size wa.heap.size wa HXa.out.t6.ks.toI HXa.out.t8.ks.toI (by rw [List.length_map]; omega))
  have HV := Lib.hid (fun n => sameEq_calls (T.prs.map Prod.snd) (.slice V1 (List.length T.prs) vc1) (.slice V2 (List.length T.prs) vc2) wa.heap.size wa.heap.size (wa.drewN n) ((HXa.out.t6.drewN n).vs.toI) ((HXa.out.t8.drewN n).vs.toI) (by rw [List.length_map]; omega))
  have hht : (T.ht == T.ht) = true := by simp
  have hbel := HXa.out.bel
  rcases HTP.out with ⟨e0, e1⟩ | ⟨a, rest, e0, e1⟩
  · have en : T.shape.length = 0 := by rw [e0]; rfl
    rw [en] at HSa ⊢
    rw [e1] at u0 hht
    clear e0 e1 en
    go_wp2_with fail
    refine HK.out.mono ?_
    rintro e wb ⟨rfl, n1, rfl⟩
    go_wp2_with fail
    refine (HV.out _).mono ?_
    rintro e wb ⟨rfl, n2, rfl⟩
    go_wp2
    go_ret
    exact ⟨rfl, hbel.trans (Below.drewN _ _)⟩
  · have hp : 0 < T.shape.length := by rw [e0]; simp
    have hp2 : (0 : Int) < (T.shape.length : Int) := by omega
    obtain ⟨b, off, a', rfl, g1, g3, g4, g5, z⟩ := HSa.out.at_ hp
    have : a' = a := by rw [e0] at g5; simpa using g5.symm
    subst this
    have q2 := z 2 _ rfl
    rw [e1] at q2
    simp only [Nat.zero_mul, Nat.add_zero] at q2
    clear z g5 e0 e1
    go_wp2_with fail
    refine HK.out.mono ?_
    rintro e wb ⟨rfl, n1, rfl⟩
    go_wp2_with fail
    refine (HV.out _).mono ?_
    rintro e wb ⟨rfl, n2, rfl⟩
    go_wp2
    go_ret
    exact ⟨rfl, hbel.trans (Below.drewN _ _)⟩
end Go.Proofs.Ytpnmgfiifaljjaa.Kp
