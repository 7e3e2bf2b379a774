/- B-trees as data: ZzShape, ZzHeight, BtreeShape. -/
import Derived.Test.YtjbelfbfhcmgeaaBsZ2
import Derived.Test.YtjbelfbfhcmgeaaBsP
import Derived.Deep.RegionLaw
namespace Go.Proofs.Ytjbelfbfhcmgeaa.Kp
open Go.RowKit Bt Om

set_option maxRecDepth 100000 in
set_option maxHeartbeats 1600000 in
theorem zzs_calls (xs : List Int) (tb : Nat) (f : Value) (B : Nat) (s : BNT) (n : Int) (w : World) (H : TB w tb f xs B s n) (hh : s.1 ≤ 1000000000000) (hl : (shapeE s.1 s.er.2).length ≤ 100000000000) :
    Calls Try.prog 31 #[.pointer (some ⟨tb, 0, none⟩)] w (ZZPost w w.heap.size (shapeE s.1 s.er.2)) := by
  obtain ⟨h, t⟩ := s
  have c0 : w.cell? ⟨tb, 0, none⟩ = some (.pointer (some ⟨BN.id h t, 0, none⟩)) := H.blk.cell 0
  have c1 : w.cell? ⟨tb, 1, none⟩ = some (.int .i64 (h : Nat)) := H.blk.cell 1
  have HC := Lib.hid (fun m => (zz_calls w.heap.size h (by simp only at hh; omega)).at_ t [] [] (.slice none 0 0) (w.drewN m) (H.inn.below (Below.drewN w m)) (BN.In.lt H.inn) (Nat.le_refl _) (World.ownsRow_nil _ _ _ _) rfl (by rw [List.length_nil, Nat.zero_add]; exact hl))
  obtain ⟨q, hq⟩ : ∃ q, q = shapeE h (BN.er h t) := ⟨_, rfl⟩
  rw [← hq] at HC
  show Calls _ _ _ _ (ZZPost w w.heap.size (shapeE h (BN.er h t)))
  rw [← hq]
  clear H hq hl
  go_enter Try.func31, Try.ntmps31
  go_wp2_with fail
  go_region_with (go_at_call 47; refine (HC.out 1).mono ?_; rintro e w3 ⟨v3, cs3, rfl, o3, z3, b3, k3, t3⟩)
  all_goals
    go_wp2_with fail
    go_ret
    exact ⟨_, cs3, rfl, o3, z3, (Below.drewN w 1).trans b3, (KeepI.below (Below.drewN w 1)).trans k3, (KeepT.below (Below.drewN w 1)).trans t3⟩
set_option maxRecDepth 100000 in
theorem zzh_calls (tb : Nat) (p : Value) (n : Int) (q f : Value) (w : World) (H : Blk w tb #[p, .int .i64 n, q, f] 89) :
    Calls Try.prog 32 #[.pointer (some ⟨tb, 0, none⟩)] w fun e w' => e = .returned (.int .i64 n) ∧ w' = w := by
  have c1 : w.cell? ⟨tb, 1, none⟩ = some (.int .i64 n) := H.cell 1
  clear H
  go_enter Try.func32, Try.ntmps32
  go_wp2_with fail
  go_ret
  exact ⟨rfl, rfl⟩
/-- nodes in a slice. -/
structure KR (w : World) (v : Value) (l : List KnD) : Prop where
  is : ∃ A c, v = .slice A l.length c ∧ (l = [] ∨ ∃ b off, A = some ⟨b, off, none⟩ ∧ l.length ≤ c ∧ b < w.heap.size ∧ ∀ (i : Nat) d, l[i]? = some d → ∃ ka va ba,
    w.cell? ⟨b, off + i * 4, none⟩ = some (.bool d.leaf) ∧ w.cell? ⟨b, off + i * 4 + 1, none⟩ = some ka ∧ w.cell? ⟨b, off + i * 4 + 2, none⟩ = some va ∧ w.cell? ⟨b, off + i * 4 + 3, none⟩ = some ba ∧ NS w ka d.keys ∧ NS w va d.vals ∧ NB w ba d.valid)
theorem KR.below {w w' : World} {v : Value} {l : List KnD} (h : KR w v l) (hb : Below w.heap.size w w') : KR w' v l := by
  obtain ⟨A, c, e, h⟩ := h.is
  refine ⟨A, c, e, h.imp id ?_⟩
  rintro ⟨b, off, e, h1, h3, h4⟩
  refine ⟨b, off, e, h1, Nat.lt_of_lt_of_le h3 hb.size, fun i d hi => ?_⟩
  obtain ⟨ka, va, ba, a0, a1, a2, a3, n1, n2, n3⟩ := h4 i d hi
  exact ⟨ka, va, ba, (hb.cell (p := ⟨b, off + i * 4, none⟩) h3).trans a0, (hb.cell (p := ⟨b, off + i * 4 + 1, none⟩) h3).trans a1, (hb.cell (p := ⟨b, off + i * 4 + 2, none⟩) h3).trans a2, (hb.cell (p := ⟨b, off + i * 4 + 3, none⟩) h3).trans a3, n1.keep (KeepI.below hb), n2.keep (KeepI.below hb), n3.keep (KeepT.below hb)⟩
theorem KR.drewN {w : World} {v : Value} {l : List KnD} (h : KR w v l) (n : Nat) : KR (w.drewN n) v l := h.below (Below.drewN w n)
theorem KR.form {w : World} {v : Value} {l : List KnD} (h : KR w v l) : ∃ A c, v = .slice A l.length c := by
  obtain ⟨A, c, e, _⟩ := h.is; exact ⟨A, c, e⟩
theorem KR.at_ {w : World} {A : Option Addr} {n c : Nat} {l : List KnD} (h : KR w (.slice A n c) l) {i : Nat} {d : KnD} (hi : l[i]? = some d) : ∃ b off ka va ba, A = some ⟨b, off, none⟩ ∧ l.length ≤ c ∧ b < w.heap.size ∧
    w.cell? ⟨b, off + i * 4, none⟩ = some (.bool d.leaf) ∧ w.cell? ⟨b, off + i * 4 + 1, none⟩ = some ka ∧ w.cell? ⟨b, off + i * 4 + 2, none⟩ = some va ∧ w.cell? ⟨b, off + i * 4 + 3, none⟩ = some ba ∧ NS w ka d.keys ∧ NS w va d.vals ∧ NB w ba d.valid := by
  obtain ⟨A', c', e, h⟩ := h.is
  cases e
  rcases h with rfl | ⟨b, off, e, h1, h3, h4⟩
  · simp at hi
  · obtain ⟨ka, va, ba, h⟩ := h4 i d hi
    exact ⟨b, off, ka, va, ba, e, h1, h3, h⟩
theorem own_KR {w : World} {B : Nat} {T : TypeId} {v : Value} {l : List KnD} {cs : List Value} (h : w.ownsRow B T 4 v l.length cs) (hz : ZS w l cs) : KR w v l := by
  rcases h.2 with ⟨e, h0⟩ | ⟨g, cap, cur, e, h1, h2, h3, h4, h5, h6⟩
  · exact ⟨_, _, e.trans (by rw [show l.length = 0 from h0]), .inl (List.length_eq_zero_iff.1 h0)⟩
  · have hb : Blk w g cur T := h2
    refine ⟨_, cap, e, .inr ⟨g, 0, rfl, h3, hb.lt, fun i d hi => ?_⟩⟩
    have hil : i < l.length := (List.getElem?_eq_some_iff.1 hi).1
    obtain ⟨ka, va, ba, a0, a1, a2, a3, n1, n2, n3⟩ := ZS.at_ hz hi
    have key : ∀ j u, j < 4 → cs[i * 4 + j]? = some u → w.cell? ⟨g, 0 + i * 4 + j, none⟩ = some u := fun j u hj hu => by
      rw [hb.cell, Nat.zero_add]
      rw [← h6, List.getElem?_take_of_lt (by omega)] at hu
      simpa using hu
    exact ⟨ka, va, ba, key 0 _ (by omega) a0, key 1 _ (by omega) a1, key 2 _ (by omega) a2, key 3 _ (by omega) a3, n1, n2, n3⟩
theorem ZS.len {w : World} : ∀ {ds : List KnD} {cs : List Value}, ZS w ds cs → cs.length = ds.length * 4
  | [], _, h => by rw [h]; rfl
  | _ :: ds, _, ⟨ka, va, ba, rest, e, _, _, _, h4⟩ => by rw [e]; simp only [List.length_cons, ZS.len h4]; omega
theorem take4 {cs : List Value} {i : Nat} {a b c d : Value} (h0 : cs[i * 4]? = some a) (h1 : cs[i * 4 + 1]? = some b) (h2 : cs[i * 4 + 2]? = some c) (h3 : cs[i * 4 + 3]? = some d) : cs.take ((i + 1) * 4) = cs.take (i * 4) ++ [a, b, c, d] := by
  rw [show (i + 1) * 4 = i * 4 + 1 + 1 + 1 + 1 by omega, List.take_add_one, List.take_add_one, List.take_add_one, List.take_add_one, h0, h1, h2, h3]
  simp
theorem Try.infoKnot : (Try.prog.info? 38).map (fun i => (i.zero, i.size, i.bytes)) = some (some (.agg #[.bool false, .slice none 0 0, .slice none 0 0, .slice none 0 0]), 4, 80) := by kernel_rfl
theorem NB.form {w : World} {v : Value} {xs : List Bool} (h : NB w v xs) : ∃ A c, v = .slice A xs.length c := by
  rcases h.is with ⟨rfl, rfl⟩ | ⟨b, off, c, cur, rfl, _⟩
  · exact ⟨none, 0, rfl⟩
  · exact ⟨_, _, rfl⟩
theorem kd_news3 (w : World) (o : Obj) (cs : List Value) (T : TypeId) : ∀ j u, cs[j]? = some u → ((w.alloc o).alloc (.cells cs.toArray T)).cell? ((⟨w.heap.size + 1, 0, none⟩ : Addr).add j) = some u := by
  have h := kd_news (Blk.new (w.alloc o) cs.toArray T)
  rw [show (w.alloc o).heap.size = w.heap.size + 1 by simp] at h
  exact h
/-- what a script leaves of a B-tree, as data. -/
abbrev bruns (xs : List Int) (l : List ActD) : Bt.BT := (runB (rankOf xs) newB l).1
set_option maxRecDepth 100000 in
set_option maxHeartbeats 3200000 in
theorem bshape_calls (xs : List Int) (ov av : Value) (l : List ActD) (w : World) (ho : SlR w w.heap.size ov (xs.map i64v)) (ha : SlA w w.heap.size av l) (hl : l.length ≤ 7000000000) (hn : (shapeE (bruns xs l).1 (bruns xs l).2).length ≤ 20000000000) (hm : (shapeE (bruns xs l).1 (bruns xs l).2) ≠ []) :
    Calls Try.prog 11 #[ov, av] w fun e w' => ∃ v', e = .returned (.tuple #[v', .int .i64 ((bruns xs l).1 : Nat)]) ∧ KR w' v' (shapeE (bruns xs l).1 (bruns xs l).2) ∧ Below w.heap.size w w' := by
  obtain ⟨i0, hi0, hz0, hz1, hz2⟩ := info_parts Try.infoKnot
  have hs2 := ha.form
  obtain ⟨A, c, rfl⟩ := ho.form
  rw [List.length_map] at *
  obtain ⟨A2, c2, rfl⟩ := hs2
  have HO := Lib.hid ho
  have HA := Lib.hid ha
  have HM := Lib.hid hm
  clear ho ha hm
  go_enter Try.func11, Try.ntmps11
  go_wp2_with fail
  refine (lessMake_calls xs _ w HO.out).mono ?_
  rintro e w1 ⟨f, rfl, hf, hb1⟩
  obtain ⟨g, hg⟩ : ∃ fn fi ca, f = .func fn fi ca := by obtain ⟨_, _, rfl, _⟩ := hf; exact ⟨_, _, _, rfl⟩
  obtain ⟨fi, ca, rfl⟩ := hg
  have HF := Lib.hid hf
  clear hf
  go_wp2_with fail
  refine (bnew_calls xs _ w1.heap.size w1 HF.out (Nat.le_refl _)).mono ?_
  rintro e w2 ⟨tb, s, rfl, H, hs, hb2⟩
  have HT := Lib.hid (And.intro H hs)
  clear H hs
  go_wp2_with fail
  have hle : w.heap.size ≤ w1.heap.size := hb1.size
  refine (btreeDo_calls xs _ _ w1.heap.size tb l s w2 (((HA.out.below hb1).mono hle).below hb2) hl HT.out.1 HT.out.2).mono ?_
  rintro e w3 ⟨v', cs, s', n', rfl, _, _, hT3, hs3, hh3, _, g3⟩
  have e1 : s'.1 = (bruns xs l).1 := by have := congrArg (fun x : Bt.BT => x.1) hs3; exact this
  have e2 : shapeE s'.1 s'.er.2 = shapeE (bruns xs l).1 (bruns xs l).2 := by
    have := congrArg (fun x : Bt.BT => shapeE x.1 x.2) hs3; exact this
  have HZ := Lib.hid (zzs_calls xs tb _ w1.heap.size s' n' w3 hT3 (by omega) (by rw [e2]; omega))
  rw [e2] at HZ
  have HH := Lib.hid (And.intro hT3.blk (And.intro ((hb1.trans (hb2.mono hle)).trans (g3.mono hle)) e1))
  clear hb1 hb2 hle HF HT g3 hT3 hs3 hh3 e1 e2
  obtain ⟨L, hLe⟩ : ∃ L, L = shapeE (bruns xs l).1 (bruns xs l).2 := ⟨_, rfl⟩
  obtain ⟨ht, hte⟩ : ∃ L, L = (bruns xs l).1 := ⟨_, rfl⟩
  rw [← hLe] at HZ HM hn
  rw [← hte] at HH
  have HEQ := Lib.hid (And.intro hLe hte)
  clear hLe hte
  go_wp2_with fail
  refine HZ.out.mono ?_
  rintro e w4 ⟨v4, cs4, rfl, o4, z4, b4, _, _⟩
  have hL : 0 < L.length := List.length_pos_iff.2 HM.out
  obtain ⟨g, cap, cur, rfl, hcur⟩ : ∃ g cap cur, v4 = .slice (some ⟨g, 0, none⟩) L.length cap ∧ L.length ≤ cap ∧ cap ≤ maxLen ∧ Blk w4 g cur 68 ∧ (∀ j u, cs4[j]? = some u → cur[j]? = some u) := by
    rcases o4.2 with ⟨e, h0⟩ | ⟨g, cap, cur, e, h1, h2, h3, h4, h5, h6⟩
    · omega
    · exact ⟨g, cap, cur, e, h3, h4, h2, fun j u hu => by
        rw [← h6, List.getElem?_take] at hu
        split at hu
        · simpa using hu
        · cases hu⟩
  have B4 := HH.out.2.1.trans (b4.mono HH.out.2.1.size)
  have HR := Lib.hid (And.intro hcur (And.intro z4 B4))
  have hb4 := HH.out.1.below b4 HH.out.1.lt
  have HT4 := Lib.hid hb4
  have hcap := hcur.1
  have hcap2 := hcur.2.1
  unfold maxLen at hcap2
  clear o4 z4 b4 hcur HZ B4 hb4
  go_wp2_with fail
  go_loopw [7, 19] (fun v i wx => ∃ j : Nat, j ≤ L.length ∧ i = .int .i64 (j : Nat) ∧ Hid (wx.ownsRow w4.heap.size 38 4 v j (cs4.take (j * 4)) ∧ Below w4.heap.size w4 wx)) (fun _ i _ => L.length - (intOf i).toNat)
  case atStart => exact ⟨0, Nat.zero_le _, rfl, Lib.hid ⟨by rw [Nat.zero_mul, List.take_zero]; exact World.ownsRow_nil _ _ _ _, Below.refl _ _⟩⟩
  case round =>
    obtain ⟨j, hj, rfl, HJ⟩ := hrel
    by_cases hlt : j < L.length
    · obtain ⟨d, hd⟩ : ∃ e, L[j]? = some e := ⟨_, List.getElem?_eq_getElem hlt⟩
      obtain ⟨ka, va, ba, a0, a1, a2, a3, n1, n2, n3⟩ := ZS.at_ HR.out.2.1 hd
      obtain ⟨Ak, ck, rfl⟩ := n1.form
      obtain ⟨Av, cv, rfl⟩ := n2.form
      obtain ⟨Ab, cb, rfl⟩ := n3.form
      have HTK := Lib.hid (take4 a0 a1 a2 a3)
      have hgl := HR.out.1.2.2.1.lt
      have rd : ∀ k u, cs4[k]? = some u → wr.cell? ⟨g, k, none⟩ = some u := fun k u hu => (HJ.out.2.cell (p := ⟨g, k, none⟩) hgl).trans (by rw [HR.out.1.2.2.1.cell]; exact HR.out.1.2.2.2 k u hu)
      have q0 := rd _ _ a0
      have q1 := rd _ _ a1
      have q2 := rd _ _ a2
      have q3 := rd _ _ a3
      have gl : g < wr.heap.size := Nat.lt_of_lt_of_le hgl HJ.out.2.size
      obtain ⟨A7, c7, rfl⟩ := kd_form HJ.out.1
      have hwr : w4.heap.size ≤ wr.heap.size := HJ.out.2.size
      have HW := Lib.hid hwr
      have hcs : (cs4.take (j * 4)).length = j * 4 := by rw [List.length_take, ZS.len HR.out.2.1]; omega
      clear rd a0 a1 a2 a3 hd hgl n1 n2 n3
      go_wp2_with (at_builtin; refine wpList_append_own _ rfl (.tmp 23) (.tmp 33) 28 rfl w4.heap.size 38 i0 _ 4 80 Try.underlying28 hi0 hz0 hz1 hz2 rfl (by omega) (.slice A7 j c7) j (cs4.take (j * 4)) rfl ((HJ.out.1.alloc _).alloc _) ⟨wr.heap.size + 1, 0, none⟩ 1 1 [.bool d.leaf, .slice Ak d.keys.length ck, .slice Av d.vals.length cv, .slice Ab d.valid.length cb] rfl rfl (kd_news3 wr _ _ _) (by simp [Value.oneCell']) (by unfold maxLen; omega) (by omega) (by simp; omega) ?_; intro v' w5 o5 g5 _)
      have HN := Lib.hid (show w5.ownsRow w4.heap.size 38 4 v' (j + 1) (cs4.take ((j + 1) * 4)) ∧ Below w4.heap.size w4 w5 by
        refine ⟨by rw [HTK.out]; exact o5, ?_⟩
        exact ((HJ.out.2.alloc HW.out _).alloc (by have := HW.out; simp; omega) _).grown g5 (by have := HW.out; simp; omega) (fun g hg => (HJ.out.1.lt g hg).1))
      clear o5 g5
      go_wp2_with fail
      exact ⟨⟨j + 1, by omega, by go_num, HN⟩, by simp [intOf]; omega⟩
    · have : j = L.length := by omega
      subst this
      have hb5 := HT4.out.below HJ.out.2 HT4.out.lt
      have hmt := HR.out.2.1
      have HE := Lib.hid (show KR wr u7 L ∧ Below w.heap.size w wr by
        have h1 := HJ.out.1
        rw [← ZS.len hmt, List.take_length] at h1
        exact ⟨own_KR h1 (hmt.keep (KeepI.below HJ.out.2) (KeepT.below HJ.out.2)), HR.out.2.2.trans (HJ.out.2.mono HR.out.2.2.size)⟩)
      have HB5 := Lib.hid hb5
      clear hb5 hmt
      go_wp2_with fail
      refine (zzh_calls tb _ _ _ _ wr HB5.out).mono ?_
      rintro e w6 ⟨rfl, rfl⟩
      rw [HH.out.2.2]
      go_wp2
      go_ret2
      rw [← HEQ.out.1, ← HEQ.out.2]
      exact ⟨_, rfl, HE.out.1, HE.out.2⟩
end Go.Proofs.Ytjbelfbfhcmgeaa.Kp
