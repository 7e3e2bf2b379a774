/- spec.SameWords, spec.SameSays, spec.Begins, spec.With. -/
import Derived.Test.YtlpcddmcddenfaaTriK0
namespace Go.Proofs.Ytlpcddmcddenfaa.Kp
open Go.RowKit Tri

set_option maxRecDepth 100000 in
set_option maxHeartbeats 1600000 in
theorem sameWords_calls (lv mv : Value) (l : List Txt) (w : World) (hl : NX 9 str w lv l) (hm : NX 9 str w mv l) (hln : l.length ≤ 4294967296) :
    Calls Try.prog 17 #[lv, mv] w fun e w' => e = .returned (.bool true) ∧ Below w.heap.size w w' := by
  obtain ⟨A1, c1, rfl⟩ := hl.form
  obtain ⟨A2, c2, rfl⟩ := hm.form
  have HC1 := Lib.hid (rising_calls _ l w hl hln)
  have HM := Lib.hid hm
  have hrl := risT_len l
  obtain ⟨o, ho⟩ : ∃ o, o = risT l := ⟨_, rfl⟩
  rw [← ho] at HC1 hrl
  have HO := Lib.hid (And.intro ho hrl)
  clear hl hm ho hrl
  go_enter Try.func17, Try.ntmps17
  go_wp2_with fail
  refine HC1.out.mono ?_
  rintro e w1 ⟨v1, rfl, o1, b1⟩
  have HC2 := Lib.hid (rising_calls _ l w1 (HM.out.below b1) hln)
  have H1 := Lib.hid (And.intro o1 b1)
  clear o1 b1
  go_wp2_with fail
  refine HC2.out.mono ?_
  rintro e w2 ⟨v2, rfl, o2, b2⟩
  rw [← HO.out.1] at o2
  have n1 := own_NX (f := str) HO.out.2 (kd_below b2 H1.out.1)
  have n2 := own_NX (f := str) HO.out.2 o2
  obtain ⟨B1, d1, e1⟩ := n1.form
  obtain ⟨B2, d2, e2⟩ := n2.form
  have HN := Lib.hid (And.intro n1 n2)
  have HB := Lib.hid (H1.out.2.trans (b2.mono H1.out.2.size))
  have hlo : o.length ≤ 4294967296 := by rw [HO.out.2]; exact hln
  subst e1
  subst e2
  clear n1 n2 o2 b2 H1 HC1 HC2 HM HO
  go_wp2_with fail
  go_loopw [7] (fun i wr => ∃ k : Nat, k ≤ o.length ∧ i = .int .i64 (k : Nat) ∧ Hid (∃ n, wr = w2.drewN n)) (fun i _ => o.length - (intOf i).toNat)
  case atStart => exact ⟨0, Nat.zero_le _, rfl, ⟨0, rfl⟩⟩
  case round =>
    obtain ⟨k, hk, rfl, HD⟩ := hrel
    obtain ⟨n0, hn0⟩ := HD.out
    subst hn0
    by_cases hlt : k < o.length
    · obtain ⟨x, hx⟩ : ∃ x, o[k]? = some x := ⟨_, List.getElem?_eq_getElem hlt⟩
      obtain ⟨g1, f1, rfl, _, _, _, x1⟩ := HN.out.1.at_ hx
      obtain ⟨g2, f2, rfl, _, _, _, x2⟩ := HN.out.2.at_ hx
      obtain ⟨W, hW⟩ : ∃ W, W = w2.drewN n0 := ⟨_, rfl⟩
      have HW := Lib.hid hW
      have y1 : W.cell? ⟨g1, f1 + k, none⟩ = some (str x) := by rw [hW]; exact x1
      have y2 : W.cell? ⟨g2, f2 + k, none⟩ = some (str x) := by rw [hW]; exact x2
      have hk1 : (k : Int) < (o.length : Int) := by omega
      rw [← hW]
      clear hx x1 x2 hW
      go_wp2_with fail
      go_quiet (fail)
      go_wp2_with fail
      exact ⟨⟨k + 1, by omega, by go_num, ⟨_, by rw [HW.out]; exact World.drewN_drewN _ _ _⟩⟩, by simp [intOf]; omega⟩
    · go_wp2_with fail
      go_ret
      exact ⟨rfl, HB.out.trans (Below.drewN _ _)⟩
theorem prefix_take (x h : Txt) : h.isPrefixOf x = (decide (h.length ≤ x.length) && (x.take h.length == h)) := by
  by_cases hp : h <+: x
  · rw [List.isPrefixOf_iff_prefix.2 hp]
    obtain ⟨t, rfl⟩ := hp
    simp
  · have : h.isPrefixOf x = false := by
      rw [Bool.eq_false_iff]; exact fun e => hp (List.isPrefixOf_iff_prefix.1 e)
    rw [this]
    symm
    rw [Bool.and_eq_false_iff]
    by_cases hl : h.length ≤ x.length
    · right
      rw [beq_eq_false_iff_ne]
      intro e
      exact hp ⟨x.drop h.length, by conv => lhs; rw [← e]
                                    rw [List.length_take, Nat.min_eq_left hl, List.take_append_drop]⟩
    · left; simpa using hl
theorem begins_calls (x h : Txt) (w : World) (hx : x.length ≤ 4294967296) (hh : h.length ≤ 4294967296) :
    Calls Try.prog 13 #[str x, str h] w fun e w' => e = .returned (.bool (h.isPrefixOf x)) ∧ w = w' := by
  have s1 := size_str x
  have s2 := size_str h
  rw [prefix_take]
  by_cases hl : h.length ≤ x.length
  · have h1 : (h.length : Int) ≤ (x.length : Int) := by omega
    have hex := extract_take x h.length
    rw [decide_eq_true hl, Bool.true_and]
    go_enter Try.func13, Try.ntmps13
    go_wp2
    go_ret
    exact ⟨by simp [hex], rfl⟩
  · have h1 : ¬ (h.length : Int) ≤ (x.length : Int) := by omega
    rw [decide_eq_false hl, Bool.false_and]
    go_enter Try.func13, Try.ntmps13
    go_wp2
    go_ret
    exact ⟨rfl, rfl⟩
set_option maxRecDepth 100000 in
set_option maxHeartbeats 1600000 in
theorem with_calls (lv : Value) (l : List Txt) (h : Txt) (w : World) (hl : NX 9 str w lv l) (hln : l.length ≤ 4294967296) (hf : ∀ x ∈ l, x.length ≤ 4294967296) (hh : h.length ≤ 4294967296) :
    Calls Try.prog 18 #[lv, str h] w fun e w' => ∃ v', e = .returned v' ∧ w'.ownsRow w.heap.size 9 1 v' (l.filter (fun x => h.isPrefixOf x)).length ((l.filter (fun x => h.isPrefixOf x)).map str) ∧ Below w.heap.size w w' := by
  obtain ⟨i9, hi9, hz9, hs9, hy9⟩ := info_parts infoS
  obtain ⟨A3, c3, rfl⟩ := hl.form
  have HL := Lib.hid hl
  have HF := Lib.hid hf
  have HI := Lib.hid (show RH w.heap.size w (.slice none 0 0) ((l.take 0).filter (fun x => h.isPrefixOf x)) w from ⟨World.ownsRow_nil _ _ _ _, Below.refl _ _⟩)
  clear hl hf
  go_enter Try.func18, Try.ntmps18
  go_wp2_with fail
  go_loopw [5, 6] (fun q i wr => ∃ k : Nat, k ≤ l.length ∧ i = .int .i64 (k : Nat) ∧ Hid (RH w.heap.size w q ((l.take k).filter (fun x => h.isPrefixOf x)) wr)) (fun _ i _ => l.length - (intOf i).toNat)
  case atStart => exact ⟨0, Nat.zero_le _, rfl, HI⟩
  case round =>
    obtain ⟨k, hk, rfl, HK⟩ := hrel
    by_cases hlt : k < l.length
    · obtain ⟨x, hx⟩ : ∃ x, l[k]? = some x := ⟨_, List.getElem?_eq_getElem hlt⟩
      have hlw := HL.out.keep (KeepT.below (T := 9) HK.out.bel)
      obtain ⟨b, off, rfl, l1, l2, l3, lx⟩ := hlw.at_ hx
      have hts : (l.take (k + 1)).filter (fun x => h.isPrefixOf x) = (l.take k).filter (fun x => h.isPrefixOf x) ++ (if h.isPrefixOf x then [x] else []) := by
        rw [List.take_add_one, hx, List.filter_append]
        congr 1
        cases hq : h.isPrefixOf x with
        | true => exact List.filter_cons_of_pos hq
        | false => exact List.filter_cons_of_neg (by rw [hq]; simp)
      have HB := Lib.hid (begins_calls x h wr (HF.out x (List.mem_of_getElem? hx)) hh)
      have hol : ((l.take k).filter (fun x => h.isPrefixOf x)).length ≤ 4294967296 := Nat.le_trans (List.length_filter_le _ _) (by rw [List.length_take]; omega)
      obtain ⟨o, ho⟩ : ∃ o, o = (l.take k).filter (fun x => h.isPrefixOf x) := ⟨_, rfl⟩
      rw [← ho] at hts hol HK
      have HT := Lib.hid hts
      have hbz := HK.out.bel.size
      obtain ⟨p, hp⟩ : ∃ p, p = h.isPrefixOf x := ⟨_, rfl⟩
      rw [← hp] at HB HT
      clear hx hlw hts ho hp
      go_wp2_with fail
      refine HB.out.mono ?_
      rintro e w1 ⟨rfl, rfl⟩
      cases p with
      | true =>
        go_wp2_with (at_builtin; refine wpList_append_own _ rfl (.tmp 19) (.tmp 24) 29 rfl w.heap.size 9 i9 _ 1 16 Try.underlying29 hi9 hz9 hs9 hy9 rfl (by omega) _ o.length (o.map str) rfl (HK.out.own.alloc _) ⟨wr.heap.size, 0, none⟩ 1 1 [str x] rfl rfl (kd_news (Blk.new wr _ _)) (by simp [Value.oneCell']) (by unfold maxLen; omega) (by omega) (by simp; omega) ?_; intro v2 w2 o2 g2 _)
        have hRH : RH w.heap.size w v2 ((l.take (k + 1)).filter (fun x => h.isPrefixOf x)) w2 := ⟨by
          rw [HT.out]
          simp only [if_true, List.length_append, List.length_singleton, List.map_append]
          exact o2, (HK.out.bel.alloc hbz _).grown g2 (by simp; omega) (fun g hg => (HK.out.own.lt g hg).1)⟩
        exact ⟨⟨k + 1, by omega, by go_num, Lib.hid hRH⟩, by simp [intOf]; omega⟩
      | false =>
        have hRH : RH w.heap.size w u5 ((l.take (k + 1)).filter (fun x => h.isPrefixOf x)) wr := by rw [HT.out]; simpa using HK.out
        have HR := Lib.hid hRH
        clear hRH
        go_wp2_with fail
        exact ⟨⟨k + 1, by omega, by go_num, HR⟩, by simp [intOf]; omega⟩
    · have : k = l.length := by omega
      subst this
      have hh := HK.out
      rw [List.take_length] at hh
      have HE := Lib.hid hh
      clear hh HK
      go_wp2_with fail
      go_ret
      exact ⟨u5, rfl, HE.out.own, HE.out.bel⟩
end Go.Proofs.Ytlpcddmcddenfaa.Kp
