/- impl.AvlRotateRight, AvlRotateLeft, laws.shapeTurn. -/
import Derived.Test.YtpnmgfiifaljjaaBack0
import Derived.Test.YtpnmgfiifaljjaaSame1
namespace Go.Proofs.Ytpnmgfiifaljjaa.Kp
open Go.RowKit

theorem zzR_calls (f : Value) (tb b c : Nat) (k k2 h h2 : Int) (v v2 : Value) (l2 r2 r : AT) (w : World) (ht : TreeAt w tb (.node b k v h (.node c k2 v2 h2 l2 r2) r) f) (hi : (AT.node b k v h (.node c k2 v2 h2 l2 r2) r).In w) (hn : (AT.node b k v h (.node c k2 v2 h2 l2 r2) r).ids.Nodup) (b0 : Hok r) (b1 : Hok l2) (b2 : Hok r2) (htb : tb ∉ (AT.node b k v h (.node c k2 v2 h2 l2 r2) r).ids) :
    Calls Try.prog 52 #[.pointer (some ⟨tb, 0, none⟩)] w fun e w' => e = .returned (.tuple #[]) ∧ TreeAt w' tb (rotR (.node b k v h (.node c k2 v2 h2 l2 r2) r)) f ∧ (rotR (.node b k v h (.node c k2 v2 h2 l2 r2) r)).In w' ∧ Fr (tb :: (AT.node b k v h (.node c k2 v2 h2 l2 r2) r).ids) w w' := by
  have c0 : w.cell? ⟨tb, 0, none⟩ = some (.pointer (some ⟨b, 0, none⟩)) := ht.cell 0
  have HR := Lib.hid (rotR_calls b c k k2 h h2 v v2 l2 r2 r w hi hn b0 b1 b2)
  have HT := Lib.hid ht
  have hids := rotR_ids (.node b k v h (.node c k2 v2 h2 l2 r2) r)
  have HI := Lib.hid hids
  have HN := Lib.hid htb
  clear ht hi hn htb hids
  go_enter Try.func52, Try.ntmps52
  go_wp2_with fail
  refine HR.out.mono ?_
  rintro e w1 ⟨rfl, h1, h2⟩
  have ht1 := HT.out.fr h2 HN.out
  have u0 := ht1.cell 0
  have uf := ht1.frozen
  have HT1 := Lib.hid ht1
  have H1 := Lib.hid (And.intro h1 h2)
  clear ht1 h1 h2
  go_wp2_with fail
  go_end0
  refine ⟨rfl, HT1.out.set 0 _, H1.out.1.set 0 _ (fun hx => HN.out (HI.out.mem_iff.1 hx)), (H1.out.2.mono (fun y hy => .inl (List.mem_cons_of_mem _ hy))).comp (Fr.setCell _ tb 0 _ (List.mem_cons_self ..))⟩
theorem zzL_calls (f : Value) (tb b c : Nat) (k k2 h h2 : Int) (v v2 : Value) (l l2 r2 : AT) (w : World) (ht : TreeAt w tb (.node b k v h l (.node c k2 v2 h2 l2 r2)) f) (hi : (AT.node b k v h l (.node c k2 v2 h2 l2 r2)).In w) (hn : (AT.node b k v h l (.node c k2 v2 h2 l2 r2)).ids.Nodup) (b0 : Hok l) (b1 : Hok l2) (b2 : Hok r2) (htb : tb ∉ (AT.node b k v h l (.node c k2 v2 h2 l2 r2)).ids) :
    Calls Try.prog 53 #[.pointer (some ⟨tb, 0, none⟩)] w fun e w' => e = .returned (.tuple #[]) ∧ TreeAt w' tb (rotL (.node b k v h l (.node c k2 v2 h2 l2 r2))) f ∧ (rotL (.node b k v h l (.node c k2 v2 h2 l2 r2))).In w' ∧ Fr (tb :: (AT.node b k v h l (.node c k2 v2 h2 l2 r2)).ids) w w' := by
  have c0 : w.cell? ⟨tb, 0, none⟩ = some (.pointer (some ⟨b, 0, none⟩)) := ht.cell 0
  have HR := Lib.hid (rotL_calls b c k k2 h h2 v v2 l l2 r2 w hi hn b0 b1 b2)
  have HT := Lib.hid ht
  have hids := rotL_ids (.node b k v h l (.node c k2 v2 h2 l2 r2))
  have HI := Lib.hid hids
  have HN := Lib.hid htb
  clear ht hi hn htb hids
  go_enter Try.func53, Try.ntmps53
  go_wp2_with fail
  refine HR.out.mono ?_
  rintro e w1 ⟨rfl, h1, h2⟩
  have ht1 := HT.out.fr h2 HN.out
  have u0 := ht1.cell 0
  have uf := ht1.frozen
  have HT1 := Lib.hid ht1
  have H1 := Lib.hid (And.intro h1 h2)
  clear ht1 h1 h2
  go_wp2_with fail
  go_end0
  refine ⟨rfl, HT1.out.set 0 _, H1.out.1.set 0 _ (fun hx => HN.out (HI.out.mem_iff.1 hx)), (H1.out.2.mono (fun y hy => .inl (List.mem_cons_of_mem _ hy))).comp (Fr.setCell _ tb 0 _ (List.mem_cons_self ..))⟩
/-- a tree that may be turned. -/
def MayR : AT → Prop
  | .node _ _ _ _ (.node _ _ _ _ l2 r2) r => Hok r ∧ Hok l2 ∧ Hok r2
  | _ => False
def MayL : AT → Prop
  | .node _ _ _ _ l (.node _ _ _ _ l2 r2) => Hok l ∧ Hok l2 ∧ Hok r2
  | _ => False
theorem mayR_er : ∀ t : AT, MayR t.er ↔ MayR t
  | .nil => Iff.rfl
  | .node _ _ _ _ .nil _ => Iff.rfl
  | .node _ _ _ _ (.node _ _ _ _ l2 r2) r => by simp only [AT.er, MayR, Hok, er_ht]
theorem mayL_er : ∀ t : AT, MayL t.er ↔ MayL t
  | .nil => Iff.rfl
  | .node _ _ _ _ _ .nil => Iff.rfl
  | .node _ _ _ _ l (.node _ _ _ _ l2 r2) => by simp only [AT.er, MayL, Hok, er_ht]
theorem may_R {t T : AT} (e : T.er = t.er) (h : MayR t) : MayR T := (mayR_er T).1 (e ▸ (mayR_er t).2 h)
theorem may_L {t T : AT} (e : T.er = t.er) (h : MayL t) : MayL T := (mayL_er T).1 (e ▸ (mayL_er t).2 h)
theorem er_vsT {t T : AT} (e : T.er = t.er) (h : t.Vs) : T.Vs := er_vs.1 (e ▸ er_vs.2 h)
theorem er_lenT {t T : AT} (e : T.er = t.er) : T.ids.length = t.ids.length := by rw [← er_len T, e, er_len]
/-- impl.AvlRotateRight. -/
theorem rotateR_calls (t : AT) (hv : t.Vs) (hm : MayR t) (hn : t.ids.length ≤ 5000000000) (v : Value) (w : World) (hs : SlC 5 brCells w w.heap.size v t.shape) :
    Calls Try.prog 33 #[v] w fun e w' => ∃ v', e = .returned v' ∧ SlC 5 brCells w' w'.heap.size v' (rotR t).shape ∧ Below w.heap.size w w' := by
  obtain ⟨A, c, rfl⟩ := hs.form
  have HG := Lib.hid (grown_calls [] t hv (.slice none 0 0) (.slice A t.shape.length c) w ⟨⟨none, 0, rfl, .inl rfl⟩⟩ hs (by omega))
  clear hs
  go_enter Try.func33, Try.ntmps33
  go_wp2_with fail
  refine HG.out.mono ?_
  rintro e w1 ⟨T, tb, f, rfl, a1, a2, a3, ⟨B, _, a4, a5, a6, a7⟩, a8⟩
  have m := may_R a2.er hm
  have vs := er_vsT a2.er hv
  have ln := er_lenT a2.er
  have eR : (rotR T).er = (rotR t).er := by rw [er_rotR, er_rotR, a2.er]
  have HE := Lib.hid eR
  clear eR
  rcases T with _ | ⟨b, k, vv, h, _ | ⟨c2, k2, v2, h2, l2, r2⟩, r⟩ <;> try exact False.elim m
  have HZ := Lib.hid (zzR_calls f tb b c2 k k2 h h2 vv v2 l2 r2 r w1 a1 a2.lies a2.nd m.1 m.2.1 m.2.2 a3)
  have hids := rotR_ids (.node b k vv h (.node c2 k2 v2 h2 l2 r2) r)
  have hvs := rotR_vs vs
  have HI := Lib.hid (And.intro hids (And.intro hvs (And.intro ln a2.ge)))
  have htl := a1.lt
  clear hids hvs ln a2 vs m a1 a3
  generalize rotR (.node b k vv h (.node c2 k2 v2 h2 l2 r2) r) = T2 at *
  go_wp2_with fail
  refine HZ.out.mono ?_
  rintro e w2 ⟨rfl, c1, c3, c4⟩
  have HB := Lib.hid (branches_calls f tb T2 w2 c1 c3 HI.out.2.1 (by rw [HI.out.1.length_eq, HI.out.2.2.1]; omega))
  have B2 : Below w.heap.size w w2 := a8.trans (c4.below (fun x hx => by
    rcases List.mem_cons.1 hx with rfl | hx
    · omega
    · exact HI.out.2.2.2 x hx) a8.size)
  clear c1 c3 c4
  go_wp2_with fail
  refine HB.out.mono ?_
  rintro e w3 ⟨v3, rfl, d1, d2⟩
  go_wp2_with fail
  go_ret
  refine ⟨v3, rfl, ?_, B2.trans (d2.mono B2.size)⟩
  rw [← er_shape (rotR t), ← HE.out, er_shape]
  exact own_SlC brCells_len d1
/-- impl.AvlRotateLeft. -/
theorem rotateL_calls (t : AT) (hv : t.Vs) (hm : MayL t) (hn : t.ids.length ≤ 5000000000) (v : Value) (w : World) (hs : SlC 5 brCells w w.heap.size v t.shape) :
    Calls Try.prog 34 #[v] w fun e w' => ∃ v', e = .returned v' ∧ SlC 5 brCells w' w'.heap.size v' (rotL t).shape ∧ Below w.heap.size w w' := by
  obtain ⟨A, c, rfl⟩ := hs.form
  have HG := Lib.hid (grown_calls [] t hv (.slice none 0 0) (.slice A t.shape.length c) w ⟨⟨none, 0, rfl, .inl rfl⟩⟩ hs (by omega))
  clear hs
  go_enter Try.func34, Try.ntmps34
  go_wp2_with fail
  refine HG.out.mono ?_
  rintro e w1 ⟨T, tb, f, rfl, a1, a2, a3, ⟨B, _, a4, a5, a6, a7⟩, a8⟩
  have m := may_L a2.er hm
  have vs := er_vsT a2.er hv
  have ln := er_lenT a2.er
  have eR : (rotL T).er = (rotL t).er := by rw [er_rotL, er_rotL, a2.er]
  have HE := Lib.hid eR
  clear eR
  rcases T with _ | ⟨b, k, vv, h, l, _ | ⟨c2, k2, v2, h2, l2, r2⟩⟩ <;> try exact False.elim m
  have HZ := Lib.hid (zzL_calls f tb b c2 k k2 h h2 vv v2 l l2 r2 w1 a1 a2.lies a2.nd m.1 m.2.1 m.2.2 a3)
  have hids := rotL_ids (.node b k vv h l (.node c2 k2 v2 h2 l2 r2))
  have hvs := rotL_vs vs
  have HI := Lib.hid (And.intro hids (And.intro hvs (And.intro ln a2.ge)))
  have htl := a1.lt
  clear hids hvs ln a2 vs m a1 a3
  generalize rotL (.node b k vv h l (.node c2 k2 v2 h2 l2 r2)) = T2 at *
  go_wp2_with fail
  refine HZ.out.mono ?_
  rintro e w2 ⟨rfl, c1, c3, c4⟩
  have HB := Lib.hid (branches_calls f tb T2 w2 c1 c3 HI.out.2.1 (by rw [HI.out.1.length_eq, HI.out.2.2.1]; omega))
  have B2 : Below w.heap.size w w2 := a8.trans (c4.below (fun x hx => by
    rcases List.mem_cons.1 hx with rfl | hx
    · omega
    · exact HI.out.2.2.2 x hx) a8.size)
  clear c1 c3 c4
  go_wp2_with fail
  refine HB.out.mono ?_
  rintro e w3 ⟨v3, rfl, d1, d2⟩
  go_wp2_with fail
  go_ret
  refine ⟨v3, rfl, ?_, B2.trans (d2.mono B2.size)⟩
  rw [← er_shape (rotL t), ← HE.out, er_shape]
  exact own_SlC brCells_len d1
end Go.Proofs.Ytpnmgfiifaljjaa.Kp
