/- laws.shapeMay, laws.shapeTurn, FnAvlTurnsBack's walk. -/
import Derived.Test.YtpnmgfiifaljjaaBack1
namespace Go.Proofs.Ytpnmgfiifaljjaa.Kp
open Go.RowKit

/-- a list of nodes that may be turned at its root. -/
structure May (l : List BrD) (right : Bool) (t : BT) : Prop where
  is : t.is = true
  flags : hasB l = t.flags
  talls : l.map BrD.ht = t.talls
  side : ∃ a rest, l = a :: rest ∧ (if right then a.l = true else a.r = true)
theorem ok_tree {l : List BrD} (hne : l ≠ []) (h : KidsOk (hasB l) = true) : ∃ t : BT, t.is = true ∧ hasB l = t.flags := by
  have h1 : hasB l ≠ [] := fun e => hne (by have := congrArg List.length e; rw [hasB_len] at this; exact List.length_eq_zero_iff.1 (by simpa using this))
  have h2 := of_decide_eq_true h
  rcases h2 with h2 | h2
  · exact absurd h2 h1
  · obtain ⟨t, t1, t2⟩ := tree_of (has := hasB l) (fun x hx => by
      obtain ⟨a, _, rfl⟩ := List.mem_map.1 hx
      exact ⟨_, _, rfl⟩) h2
    exact ⟨t, t1, t2.symm⟩
set_option maxRecDepth 100000 in
set_option maxHeartbeats 1600000 in
theorem may_calls (l : List BrD) (hn : l.length ≤ 5000000000) (right : Bool) (lv : Value) (w : World) (hl : SlC 5 brCells w w.heap.size lv l) :
    Calls Try.prog 8 #[lv, .bool right] w fun e w' => ∃ m : Bool, e = .returned (.bool m) ∧ Below w.heap.size w w' ∧ (m = true → ∃ t, May l right t) := by
  obtain ⟨A, c, rfl⟩ := hl.form
  have HS := Lib.hid hl
  have HB := Lib.hid (branches2_calls l hn _ w hl)
  clear hl
  cases hk : KidsOk (hasB l) with
  | false =>
    have HK := Lib.hid hk
    clear hk
    go_enter Try.func8, Try.ntmps8
    go_wp2_with fail
    refine HB.out.mono ?_
    rintro e w1 ⟨b1, v1, rfl, A1, c1, rfl, h1⟩
    rw [HK.out]
    clear h1
    go_wp2
    go_ret
    exact ⟨false, rfl, b1, fun h => by cases h⟩
  | true =>
    rcases l with _ | ⟨a, rest⟩
    · have HK := Lib.hid hk
      clear hk
      go_enter Try.func8, Try.ntmps8
      go_wp2_with fail
      refine HB.out.mono ?_
      rintro e w1 ⟨b1, v1, rfl, A1, c1, rfl, h1⟩
      rw [HK.out]
      clear h1
      go_wp2
      go_ret
      exact ⟨false, rfl, b1, fun h => by cases h⟩
    · obtain ⟨t, t1, t2⟩ := ok_tree (by simp) hk
      have hp : 0 < (a :: rest).length := by simp
      have hp2 : (0 : Int) < ((a :: rest).length : Int) := by omega
      obtain ⟨b, off, a', rfl, g1, g3, g4, g5, z⟩ := HS.out.at_ hp
      have : a' = a := by simpa using g5.symm
      subst this
      have HZ := Lib.hid z
      have HK := Lib.hid hk
      have HT := Lib.hid (And.intro t1 t2)
      have HTD := Lib.hid (fun kv (w' : World) hk hb => told_calls (a' :: rest) hn t t2 (.slice (some ⟨b, off, none⟩) (a' :: rest).length c) kv w'.heap.size w' (((HS.out.below hb).mono hb.size)) hk)
      clear hk z g5 t1 t2
      generalize hL : a' :: rest = L at *
      have HLL := Lib.hid hL
      clear hL
      cases hd : decide (L.map BrD.ht = t.talls) with
      | false =>
        rw [hd] at HTD
        clear hd
        go_enter Try.func8, Try.ntmps8
        go_wp2_with fail
        refine HB.out.mono ?_
        rintro e w1 ⟨b1, v1, rfl, A1, c1, rfl, h1⟩
        rw [HK.out]
        have HC := Lib.hid (HTD.out _ w1 (h1 HK.out) b1)
        rw [hasB_len] at HC ⊢
        clear h1
        go_wp2_with fail
        refine HC.out.mono ?_
        rintro e w2 ⟨rfl, n, rfl⟩
        go_wp2
        go_ret
        exact ⟨false, rfl, b1.trans (Below.drewN _ _), fun h => by cases h⟩
      | true =>
        rw [hd] at HTD
        have HD := Lib.hid (of_decide_eq_true hd)
        clear hd
        have HM : Hid (∀ m : Bool, (m = if right then a'.l else a'.r) → m = true → ∃ t, May L right t) := Lib.hid (by
          intro m h1 h2
          refine ⟨t, HT.out.1, HT.out.2, HD.out, a', rest, HLL.out.symm, ?_⟩
          cases right <;> simp_all)
        have hcl : ∀ w' : World, Below w.heap.size w w' → w'.cell? ⟨b, off + 3, none⟩ = some (.bool a'.l) ∧ w'.cell? ⟨b, off + 4, none⟩ = some (.bool a'.r) := fun w' hb =>
          ⟨(hb.cell (p := ⟨b, off + 3, none⟩) g3).trans (by simpa using HZ.out 3 _ rfl), (hb.cell (p := ⟨b, off + 4, none⟩) g3).trans (by simpa using HZ.out 4 _ rfl)⟩
        have HCL := Lib.hid hcl
        clear hcl HZ
        generalize a'.l = al at *
        generalize a'.r = ar at *
        cases right
        all_goals
          go_enter Try.func8, Try.ntmps8
          go_wp2_with fail
          refine HB.out.mono ?_
          rintro e w1 ⟨b1, v1, rfl, A1, c1, rfl, h1⟩
          rw [HK.out]
          have HC := Lib.hid (HTD.out _ w1 (h1 HK.out) b1)
          obtain ⟨z3, z4⟩ := HCL.out w1 b1
          rw [hasB_len] at HC ⊢
          clear h1
          go_wp2_with fail
          refine HC.out.mono ?_
          rintro e w2 ⟨rfl, n, rfl⟩
          go_wp2
          all_goals
            go_ret
            refine ⟨_, rfl, b1.trans (Below.drewN _ _), HM.out _ ?_⟩
            simp_all
theorem at_len {l : List BrD} {right : Bool} {t : BT} (h : May l right t) : (mkAT t l).ids.length = l.length := by
  rw [← AT.shape_len, mk_shape _ _ h.flags]
theorem may_side {l : List BrD} {right : Bool} {t : BT} (h : May l right t) (hn : l.length ≤ 5000000000) : RtA (mkAT t l) ∧ if right then MayR (mkAT t l) else MayL (mkAT t l) := by
  have hr := (mk_rt t l h.flags h.talls).1
  have hl := at_len h
  refine ⟨hr, ?_⟩
  obtain ⟨a, rest, e, hs⟩ := h.side
  have hf := h.flags
  have hi := h.is
  subst e
  rcases t with _ | ⟨tl, tr⟩
  · cases hi
  obtain ⟨h1, h2, h3, h4⟩ := mk_parts hf
  simp only [mkAT] at hr hl ⊢
  simp only [AT.ids, List.length_cons, List.length_append] at hl
  simp only [List.length_cons] at hn
  cases right
  · simp only [Bool.false_eq_true, if_false] at hs ⊢
    have hx : (mkAT tr (rest.drop tl.size)).ptr.isSome = true := by rw [mk_isSome _ _ h4, ← h2]; exact hs
    obtain ⟨_, r1, r2⟩ := hr
    generalize mkAT tr (rest.drop tl.size) = R at *
    rcases R with _ | ⟨c, k2, v2, h2, l2, r2'⟩
    · simp [AT.ptr] at hx
    have b1 := r1.bd
    have b2 := r2.2.1.bd
    have b3 := r2.2.2.bd
    simp only [AT.ids, List.length_cons, List.length_append] at hl
    exact ⟨⟨by omega, by omega⟩, ⟨by omega, by omega⟩, ⟨by omega, by omega⟩⟩
  · simp only [if_true] at hs ⊢
    have hx : (mkAT tl (rest.take tl.size)).ptr.isSome = true := by rw [mk_isSome _ _ h3, ← h1]; exact hs
    obtain ⟨_, r1, r2⟩ := hr
    generalize mkAT tl (rest.take tl.size) = R at *
    rcases R with _ | ⟨c, k2, v2, h2, l2, r2'⟩
    · simp [AT.ptr] at hx
    have b1 := r2.bd
    have b2 := r1.2.1.bd
    have b3 := r1.2.2.bd
    simp only [AT.ids, List.length_cons, List.length_append] at hl
    exact ⟨⟨by omega, by omega⟩, ⟨by omega, by omega⟩, ⟨by omega, by omega⟩⟩
/-- a turn, and that the turned tree may be turned back to the same one. -/
theorem turned_R {t : AT} (h : MayR t) (hr : RtA t) : MayL (rotR t) ∧ rotL (rotR t) = t := by
  rcases t with _ | ⟨b, k, v, hh, _ | ⟨c, k2, v2, h2, l2, r2⟩, r⟩ <;> try exact False.elim h
  exact ⟨⟨h.2.1, h.2.2, h.1⟩, back_R hr⟩
theorem turned_L {t : AT} (h : MayL t) (hr : RtA t) : MayR (rotL t) ∧ rotR (rotL t) = t := by
  rcases t with _ | ⟨b, k, v, hh, l, _ | ⟨c, k2, v2, h2, l2, r2⟩⟩ <;> try exact False.elim h
  exact ⟨⟨h.2.2, h.1, h.2.1⟩, back_L hr⟩
/-- laws.shapeTurn. -/
theorem turn_calls (t : AT) (right : Bool) (hv : t.Vs) (hm : if right then MayR t else MayL t) (hn : t.ids.length ≤ 5000000000) (v : Value) (w : World) (hs : SlC 5 brCells w w.heap.size v t.shape) :
    Calls Try.prog 10 #[v, .bool right] w fun e w' => ∃ v', e = .returned v' ∧ SlC 5 brCells w' w'.heap.size v' (if right then rotR t else rotL t).shape ∧ Below w.heap.size w w' := by
  obtain ⟨A, c, rfl⟩ := hs.form
  cases right
  · simp only [Bool.false_eq_true, if_false] at hm ⊢
    have H := Lib.hid (rotateL_calls t hv hm hn _ w hs)
    clear hs hm
    go_enter Try.func10, Try.ntmps10
    go_wp2_with fail
    refine H.out.mono ?_
    rintro e w1 ⟨v1, rfl, h1, h2⟩
    go_wp2
    go_ret
    exact ⟨v1, rfl, h1, h2⟩
  · simp only [if_true] at hm ⊢
    have H := Lib.hid (rotateR_calls t hv hm hn _ w hs)
    clear hs hm
    go_enter Try.func10, Try.ntmps10
    go_wp2_with fail
    refine H.out.mono ?_
    rintro e w1 ⟨v1, rfl, h1, h2⟩
    go_wp2
    go_ret
    exact ⟨v1, rfl, h1, h2⟩
theorem rot_vs {t : AT} (h : t.Vs) (right : Bool) : (if right then rotR t else rotL t).Vs := by
  cases right
  · exact rotL_vs h
  · exact rotR_vs h
theorem rot_len {t : AT} (right : Bool) : (if right then rotR t else rotL t).ids.length = t.ids.length := by
  cases right
  · exact (rotL_ids t).length_eq
  · exact (rotR_ids t).length_eq
theorem turned_back {t : AT} (right : Bool) (h : if right then MayR t else MayL t) (hr : RtA t) : (if !right then MayR (if right then rotR t else rotL t) else MayL (if right then rotR t else rotL t)) ∧ (if !right then rotR (if right then rotR t else rotL t) else rotL (if right then rotR t else rotL t)) = t := by
  cases right
  · exact turned_L h hr
  · exact turned_R h hr
set_option maxRecDepth 100000 in
set_option maxHeartbeats 1600000 in
theorem turnsBack_calls (l : List BrD) (right : Bool) (lv : Value) (w : World) (hl : SlC 5 brCells w w.heap.size lv l) :
    Calls Try.prog 3 #[lv, .bool right] w fun e w' => e = .returned (.bool true) ∧ Below w.heap.size w w' := by
  obtain ⟨A, c, rfl⟩ := hl.form
  by_cases b1 : (l.length : Int) ≤ 2147483647
  case neg =>
    clear hl
    go_enter Try.func3, Try.ntmps3
    go_wp2
    go_ret
    exact ⟨rfl, Below.refl _ _⟩
  have hn : l.length ≤ 5000000000 := by omega
  have HS := Lib.hid hl
  have HM := Lib.hid (may_calls l hn right _ w hl)
  clear hl
  go_enter Try.func3, Try.ntmps3
  go_wp2_with fail
  refine HM.out.mono ?_
  rintro e w1 ⟨m, rfl, h1, h2⟩
  cases m with
  | false =>
    clear h2
    go_wp2
    go_ret
    exact ⟨rfl, h1⟩
  | true =>
    obtain ⟨t, ht⟩ := h2 rfl
    obtain ⟨hr, hs⟩ := may_side ht hn
    have hlen := at_len ht
    have hsh := mk_shape _ _ ht.flags
    have hvs := mk_vs t l
    generalize mkAT t l = T at *
    have HT := Lib.hid (turn_calls T right hvs hs (by omega) (.slice A l.length c) w1 (by rw [hsh]; exact (HS.out.below h1).mono h1.size))
    obtain ⟨k1, k2⟩ := turned_back right hs hr
    have HT2 := Lib.hid (fun v2 (w2 : World) h => turn_calls (if right then rotR T else rotL T) (!right) (rot_vs hvs right) k1 (by rw [rot_len]; omega) v2 w2 h)
    rw [k2, hsh] at HT2
    have HSH := Lib.hid hsh
    clear k1 k2 h2 ht hr hs hlen hsh hvs
    generalize (if right then rotR T else rotL T) = T2 at *
    have hS1 := Lib.hid (And.intro HS h1)
    go_wp2_with fail
    refine HT.out.mono ?_
    rintro e w2 ⟨v2, rfl, s2, b2⟩
    have HC2 := Lib.hid (HT2.out v2 w2 s2)
    have B2 := h1.trans (b2.mono h1.size)
    clear s2
    go_wp2_with fail
    refine HC2.out.mono ?_
    rintro e w3 ⟨v3, rfl, s3, b3⟩
    have B3 := B2.trans (b3.mono B2.size)
    have HC3 := Lib.hid (shapeSame_calls l v3 _ w3.heap.size w3.heap.size w3 s3 ((HS.out.below B3).mono B3.size) (by omega))
    clear s3
    go_wp2_with fail
    refine HC3.out.mono ?_
    rintro e w4 ⟨rfl, n, rfl⟩
    go_wp2
    go_ret
    exact ⟨rfl, B3.trans (Below.drewN _ _)⟩
end Go.Proofs.Ytpnmgfiifaljjaa.Kp
