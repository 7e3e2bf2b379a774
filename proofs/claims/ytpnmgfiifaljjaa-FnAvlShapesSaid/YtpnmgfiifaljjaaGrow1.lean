/- AVL trees as data: ZzTree, impl.grown, AvlShape, AvlOn. -/
import Derived.Test.YtpnmgfiifaljjaaGrow0
namespace Go.Proofs.Ytpnmgfiifaljjaa
open Go.RowKit

/-- a tree that is the same as another one, but for its places; all of it new behind B. -/
structure Copy (w : World) (B : Nat) (t T : AT) : Prop where
  er : T.er = t.er
  lies : T.In w
  nd : T.ids.Nodup
  ge : ∀ i ∈ T.ids, B ≤ i
set_option maxHeartbeats 400000 in
theorem zzTree_calls (t : AT) (hv : t.Vs) (f v : Value) (hf : ∃ g fi ca, f = .func g fi ca) (w : World) (hs : SlC 5 brCells w w.heap.size v t.shape) :
    Calls Try.prog 67 #[f, v] w fun e w' => ∃ (T : AT) (tb : Nat), e = .returned (.pointer (some ⟨tb, 0, none⟩)) ∧ TreeAt w' tb T f ∧ Copy w' w.heap.size t T ∧ w.heap.size ≤ tb ∧ tb ∉ T.ids ∧ Below w.heap.size w w' := by
  obtain ⟨g, fi, ca, rfl⟩ := hf
  have HN : Hid (Calls Try.prog 82 #[v] w fun e w' => ∃ (T : AT) (v' : Value), e = .returned (.tuple #[.pointer T.ptr, v']) ∧ Copy w' w.heap.size t T ∧ Below w.heap.size w w') := by
    show Calls _ _ _ _ _
    by_cases h : t.ptr.isSome = true
    · refine (zzNode_calls t h hv [] v w w.heap.size (Nat.le_refl _) (by simpa using hs)).mono ?_
      rintro e w' ⟨T, v', rfl, _, e1, i1, n1, g1, b1⟩
      exact ⟨T, v', rfl, ⟨e1, i1, n1, g1⟩, b1⟩
    · have e0 : t = .nil := by cases t with
        | nil => rfl
        | node => simp [AT.ptr] at h
      subst e0
      obtain ⟨A, c, rfl⟩ := hs.form
      clear hs h
      simp only [AT.shape, List.length_nil]
      go_enter Try.func82, Try.ntmps82
      go_wp2_with fail
      go_ret2
      exact ⟨.nil, _, rfl, ⟨rfl, trivial, by simp [AT.ids], by simp [AT.ids]⟩, Below.refl _ _⟩
  clear hs hv
  go_enter Try.func67, Try.ntmps67
  go_wp2_with fail
  refine HN.out.mono ?_
  rintro e w1 ⟨T, v', rfl, h1, b1⟩
  have hT : w1.heap.size ∉ T.ids := fun hx => Nat.lt_irrefl _ (h1.lies.lt _ hx)
  go_wp2_with fail
  go_ret
  exact ⟨T, w1.heap.size, rfl, Blk.new _ _ _, ⟨h1.er, h1.lies.fr (Fr.alloc [] _ _) (by simp), h1.nd, h1.ge⟩, b1.size, hT, b1.alloc b1.size _⟩
set_option maxRecDepth 100000 in
set_option maxHeartbeats 1600000 in
theorem grown_calls (xs : List Int) (t : AT) (hv : t.Vs) (ov v : Value) (w : World) (ho : SlR w w.heap.size ov (xs.map i64v)) (hs : SlC 5 brCells w w.heap.size v t.shape) (hn : t.ids.length ≤ 10000000000) :
    Calls Try.prog 42 #[ov, v] w fun e w' => ∃ (T : AT) (tb : Nat) (f : Value), e = .returned (.pointer (some ⟨tb, 0, none⟩)) ∧ TreeAt w' tb T f ∧ Copy w' w.heap.size t T ∧ tb ∉ T.ids ∧ (∃ B, LessOk w' B f xs ∧ B ≤ tb ∧ (∀ i ∈ T.ids, B ≤ i) ∧ w.heap.size ≤ B ∧ B ≤ w'.heap.size) ∧ Below w.heap.size w w' := by
  obtain ⟨i0, hi0, hz0, hz1, hz2⟩ := info_parts Try.infoZz
  have hsl := t.shape_len
  have hcap : t.shape.length ≤ 10000000000 := by omega
  obtain ⟨A, c, rfl⟩ := ho.form
  obtain ⟨A2, c2, rfl⟩ := hs.form
  rw [List.length_map] at *
  have HO := Lib.hid ho
  have HS := Lib.hid hs
  have HZ := Lib.hid (fun (f v : Value) => zzTree_calls t hv f v)
  clear ho hs hv hsl
  generalize t.shape = sh at *
  go_enter Try.func42, Try.ntmps42
  go_wp2_with fail
  go_loopw [5, 10] (fun v i wr => ∃ k, k ≤ sh.length ∧ i = .int .i64 (k : Nat) ∧ Hid (wr.ownsRow w.heap.size 94 5 v k ((sh.take k).flatMap brCells) ∧ Below w.heap.size w wr)) (fun _ i _ => sh.length - (intOf i).toNat)
  case atStart => exact ⟨0, Nat.zero_le _, rfl, ⟨World.ownsRow_nil _ _ _ _, Below.refl _ _⟩⟩
  case round =>
    obtain ⟨k, hk, rfl, HK⟩ := hrel
    by_cases hlt : k < sh.length
    · obtain ⟨b, off, a, rfl, g1, g3, g4, g5, z⟩ := HS.out.at_ hlt
      obtain ⟨key, val, ht, bl, br⟩ := a
      have q0 := (HK.out.2.cell (p := ⟨b, off + k * 5, none⟩) g3).trans (z 0 _ rfl)
      have q1 := (HK.out.2.cell (p := ⟨b, off + k * 5 + 1, none⟩) g3).trans (z 1 _ rfl)
      have q2 := (HK.out.2.cell (p := ⟨b, off + k * 5 + 2, none⟩) g3).trans (z 2 _ rfl)
      have q3 := (HK.out.2.cell (p := ⟨b, off + k * 5 + 3, none⟩) g3).trans (z 3 _ rfl)
      have q4 := (HK.out.2.cell (p := ⟨b, off + k * 5 + 4, none⟩) g3).trans (z 4 _ rfl)
      have HA := Lib.hid g5
      have hle := HK.out.2.size
      clear g5 z
      go_wp2_with (at_builtin; go_loud (refine wpList_append_own _ rfl (.tmp 14) (.tmp 26) 92 rfl w.heap.size 94 i0 _ 5 32 Try.underlying92 hi0 hz0 hz1 hz2 rfl (by omega) _ k _ rfl ((HK.out.1.alloc _).alloc _) ⟨wr.heap.size + 1, 0, none⟩ 1 1 (brCells ⟨key, val, ht, bl, br⟩) rfl rfl (news_blk2 wr _ _ _) (by simp [brCells, Value.oneCell']) (by unfold maxLen; omega) (by omega) (by simp; omega) ?_; intro v' w3 hown' hgrow _))
      refine ⟨⟨k + 1, by omega, by go_num, ⟨?_, ?_⟩⟩, by simp [intOf]; omega⟩
      · have hg := (List.getElem?_eq_some_iff.1 HA.out).2
        rw [List.take_succ_eq_append_getElem hlt, hg, flat_snoc]
        exact hown'
      · exact ((HK.out.2.alloc hle _).alloc (by simp; omega) _).grown hgrow (by simp; omega) (fun g hg => (HK.out.1.lt g hg).1)
    · have : k = sh.length := by omega
      subst this
      have h := HK.out
      rw [List.take_length] at h
      obtain ⟨A3, c3, rfl⟩ := own_form h.1
      have S3 := Lib.hid (own_SlC brCells_len h.1)
      have B3 := Lib.hid h.2
      clear HK h
      go_wp2_with fail
      refine (lessMake_calls xs _ wr ((HO.out.below B3.out).mono B3.out.size)).mono ?_
      rintro e w1 ⟨f, rfl, hf, hb1⟩
      have HF := Lib.hid hf
      obtain ⟨gf, fi, ca, rfl⟩ := hf.fn
      clear hf
      go_wp2_with fail
      refine (HZ.out _ _ ⟨_, _, _, rfl⟩ w1 ((S3.out.below hb1).mono hb1.size)).mono ?_
      rintro e w2 ⟨T, tb, rfl, t1, t2, t3, t4, t5⟩
      have hB := B3.out.size
      have hB1 := hb1.size
      go_wp2_with fail
      go_ret
      have L1 : LessOk w2 w1.heap.size (.func gf fi ca) xs := HF.out.below t5
      exact ⟨T, tb, _, rfl, t1, ⟨t2.er, t2.lies, t2.nd, fun i hi => by have := t2.ge i hi; omega⟩, t4, ⟨_, L1, t3, t2.ge, by omega, t5.size⟩, (B3.out.trans (hb1.mono hB)).trans (t5.mono (by omega))⟩
set_option maxHeartbeats 800000 in
theorem avlShape_calls (xs : List Int) (ov av : Value) (l : List ActD) (w : World) (ho : SlR w w.heap.size ov (xs.map i64v)) (ha : SlA w w.heap.size av l) (hl : l.length ≤ 7000000000) :
    Calls Try.prog 13 #[ov, av] w fun e w' => ∃ v', e = .returned v' ∧ w'.ownsRow w.heap.size 47 5 v' (runA xs .nil l).1.shape.length ((runA xs .nil l).1.shape.flatMap brCells) ∧ Below w.heap.size w w' := by
  have hs2 := ha.form
  obtain ⟨A, c, rfl⟩ := ho.form
  rw [List.length_map] at *
  obtain ⟨A2, c2, rfl⟩ := hs2
  have HO := Lib.hid ho
  have HA := Lib.hid ha
  clear ho ha
  go_enter Try.func13, Try.ntmps13
  go_wp2_with fail
  refine (lessMake_calls xs _ w HO.out).mono ?_
  rintro e w1 ⟨f, rfl, hf, hb1⟩
  obtain ⟨g, hg⟩ : ∃ fn fi ca, f = .func fn fi ca := by obtain ⟨_, _, rfl, _⟩ := hf; exact ⟨_, _, _, rfl⟩
  obtain ⟨fi, ca, rfl⟩ := hg
  have HF := Lib.hid hf
  clear hf
  go_wp2_with fail
  refine (new_calls g fi ca w1).mono ?_
  rintro e w2 ⟨rfl, ht, hb2, hz2⟩
  have HZ := Lib.hid hz2
  clear hz2
  go_wp2_with fail
  have hle : w.heap.size ≤ w1.heap.size := hb1.size
  have hsz := HZ.out
  refine (avlDo_calls xs _ _ w1.heap.size w1.heap.size l .nil w2 (((HA.out.below hb1).mono hle).below hb2) hl ht trivial (by simp [AT.ids]) trivial trivial (by simp [AT.ids]) (HF.out.below hb2) (by simp [AT.ids]) (by omega) (Nat.le_refl _)).mono ?_
  rintro e w3 ⟨v', cs, t', rfl, g1, g2, g4, g5, g6, g7, g8, g9, g10, g11, g3⟩
  have hle3 := g3.size
  clear g1 g2
  go_wp2_with fail
  refine (branches_calls _ _ t' w3 g4 g5 g9 (by simp [AT.ids] at g11; omega)).mono ?_
  rintro e w4 ⟨v4, rfl, h1, h2⟩
  go_wp2_with fail
  go_ret
  have e1 : t'.shape = (runA xs .nil l).1.shape := by rw [← er_shape t', g6]; rfl
  rw [e1] at h1
  exact ⟨_, rfl, own_weaken h1 (by omega), (hb1.trans ((hb2.mono hle).trans (g3.mono hle))).trans (h2.mono (by omega))⟩
theorem own_below {w w' : World} (hb : Below w.heap.size w w') {B s n : Nat} {T : TypeId} {v : Value} {xs : List Value} (ho : w.ownsRow B T s v n xs) : w'.ownsRow B T s v n xs := by
  refine ⟨ho.1, ho.2.imp id ?_⟩
  rintro ⟨g, cap, cur, a1, a2, a3, a4⟩
  exact ⟨g, cap, cur, a1, a2, by rw [hb.block g (Array.getElem?_eq_some_iff.1 a3).1]; exact a3, a4⟩
set_option maxHeartbeats 1600000 in
theorem avlOn_calls (xs : List Int) (ov bv av : Value) (t : AT) (hv : t.Vs) (hok : t.Ok) (hn : t.ids.length ≤ 3000000000) (l : List ActD) (w : World) (ho : SlR w w.heap.size ov (xs.map i64v)) (hs : SlC 5 brCells w w.heap.size bv t.shape) (ha : SlA w w.heap.size av l) (hl : l.length ≤ 7000000000) :
    Calls Try.prog 18 #[ov, bv, av] w fun e w' => ∃ v1 v2, e = .returned (.tuple #[v1, v2]) ∧ Tolds w' w.heap.size v1 (runA xs t.er l).2 ∧ w'.ownsRow w.heap.size 47 5 v2 (runA xs t.er l).1.shape.length ((runA xs t.er l).1.shape.flatMap brCells) ∧ Below w.heap.size w w' := by
  obtain ⟨A, c, rfl⟩ := ho.form
  obtain ⟨A2, c2, rfl⟩ := ha.form
  obtain ⟨A3, c3, rfl⟩ := hs.form
  rw [List.length_map] at *
  have HO := Lib.hid ho
  have HA := Lib.hid ha
  have HS := Lib.hid hs
  clear ho ha hs
  go_enter Try.func18, Try.ntmps18
  go_wp2_with fail
  refine (grown_calls xs t hv _ _ w HO.out HS.out (by omega)).mono ?_
  rintro e w1 ⟨T, tb, f, rfl, t1, t2, t3, ⟨B, f1, f2, f3, f4, f5⟩, b1⟩
  have hT : T.ids.length = t.ids.length := by rw [← er_len T, t2.er, er_len]
  go_wp2_with fail
  refine (avlDo_calls xs _ _ B tb l T w1 ((HA.out.below b1).mono f4) hl t1 t2.lies t2.nd (by rw [← er_ok, t2.er, er_ok]; exact hok) (by rw [← er_vs, t2.er, er_vs]; exact hv) (by omega) f1 f3 f5 f2).mono ?_
  rintro e w2 ⟨v', cs, t', rfl, g1, g2, g4, g5, g6, g7, g8, g9, g10, g11, g3⟩
  rw [t2.er] at g1 g2 g6
  have hle3 := g3.size
  go_wp2_with fail
  refine (branches_calls _ _ t' w2 g4 g5 g9 (by omega)).mono ?_
  rintro e w3 ⟨v4, rfl, h1, h2⟩
  go_wp2_with fail
  go_ret2
  have e1 : t'.shape = (runA xs t.er l).1.shape := by rw [← er_shape t', g6]
  rw [e1] at h1
  exact ⟨_, _, rfl, ⟨cs, own_weaken (own_below h2 g1) f4, ((KeepsInts.below h2).tr g2).weaken f4⟩, own_weaken h1 (by omega), b1.trans ((g3.mono f4).trans (h2.mono (by omega)))⟩
end Go.Proofs.Ytpnmgfiifaljjaa
