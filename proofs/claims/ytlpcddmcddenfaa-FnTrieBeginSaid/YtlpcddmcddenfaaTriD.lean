/- tries in memory: a node is taken away. -/
import Derived.Test.YtlpcddmcddenfaaTriPt
namespace Go.Proofs.Ytlpcddmcddenfaa.Kp
open Go.RowKit Tri

def TN.minC : TN → TN
  | .nil => .nil
  | .node p c l m r v b => match l with
    | .nil => .node p c .nil m r v b
    | .node .. => l.minC
def TN.delMin : TN → TN
  | .nil => .nil
  | .node p c l m r v b => match l with
    | .nil => r
    | .node .. => .node p c l.delMin m r v b
def TN.lc : TN → Nat
  | .nil => 0
  | .node _ _ l _ _ _ _ => l.lc + 1
theorem TN.minC_er : ∀ t : TN, t.minC.er = t.er.minC
  | .nil => rfl
  | .node _ _ .nil _ _ _ _ => rfl
  | .node _ _ (.node p c l m r v b) _ _ _ _ => TN.minC_er (.node p c l m r v b)
theorem TN.delMin_er : ∀ t : TN, t.delMin.er = t.er.delMin
  | .nil => rfl
  | .node _ _ .nil _ _ _ _ => rfl
  | .node p0 c0 (.node p c l m r v b) m0 r0 v0 b0 => by
    show Tr.node c0 (TN.delMin (.node p c l m r v b)).er m0.er r0.er v0 b0 = Tr.node c0 (Tr.delMin (.node c l.er m.er r.er v b)) m0.er r0.er v0 b0
    rw [TN.delMin_er]; rfl
theorem TN.min_is : ∀ t : TN, t ≠ .nil → ∃ p c m r v b, t.minC = .node p c .nil m r v b ∧ t.ids.Perm (p :: (m.ids ++ t.delMin.ids))
  | .nil, h => absurd rfl h
  | .node p c .nil m r v b, _ => ⟨p, c, m, r, v, b, rfl, List.Perm.refl _⟩
  | .node p0 c0 (.node p c l m r v b) m0 r0 v0 b0, _ => by
    obtain ⟨p1, c1, m1, r1, v1, b1, e, hp⟩ := TN.min_is (.node p c l m r v b) (by simp)
    refine ⟨p1, c1, m1, r1, v1, b1, e, ?_⟩
    show (p0 :: ((TN.node p c l m r v b).ids ++ (m0.ids ++ r0.ids))).Perm (p1 :: (m1.ids ++ (p0 :: ((TN.delMin (.node p c l m r v b)).ids ++ (m0.ids ++ r0.ids)))))
    refine ((hp.append_right _).cons _).trans ?_
    rw [List.cons_append, List.append_assoc]
    refine (List.Perm.swap _ _ _).trans (List.Perm.cons _ ?_)
    exact List.perm_middle.symm
theorem TN.minC_in {w : World} : ∀ {t : TN}, t.In w → t.minC.In w
  | .nil, _ => trivial
  | .node _ _ .nil _ _ _ _, h => h
  | .node _ _ (.node p c l m r v b) _ _ _ _, h => TN.minC_in (t := .node p c l m r v b) h.2.1
set_option maxHeartbeats 1000000 in
theorem minChild_calls (t : TN) (ht : t ≠ .nil) (w : World) (hi : t.In w) : Calls Try.prog 45 #[.pointer t.ptr] w fun e w' => e = .returned (.pointer t.minC.ptr) ∧ w = w' := by
  obtain ⟨q, hq⟩ : ∃ q, q = t.minC.ptr := ⟨_, rfl⟩
  rw [← hq]
  have HQ := Lib.hid hq
  have HI := Lib.hid hi
  have h0 : ∃ p, t.ptr = some ⟨p, 0, none⟩ := by
    cases t with
    | nil => exact absurd rfl ht
    | node p c l m r v b => exact ⟨p, rfl⟩
  obtain ⟨p0, h0⟩ := h0
  have H0 := Lib.hid h0
  have HT := Lib.hid ht
  rw [h0]
  clear hq hi h0 ht
  go_enter Try.func45, Try.ntmps45
  go_wp2_with fail
  go_loopg [0] t.lc (fun kq v wr => v ≠ undef ∧ Hid (∃ u : TN, u ≠ .nil ∧ u.lc = kq ∧ v = .pointer u.ptr ∧ u.In w ∧ u.minC.ptr = q) ∧ wr = w)
  case atStart => exact ⟨by simp [undef], ⟨t, HT.out, rfl, by rw [H0.out], HI.out, HQ.out.symm⟩, rfl⟩
  case round =>
    obtain ⟨_, HK, rfl⟩ := hrel
    obtain ⟨u, hu, hk, rfl, hin, hm⟩ := HK.out
    cases u with
    | nil => exact absurd rfl hu
    | node p c l m r v b =>
      obtain ⟨⟨p0, p1, p2, p3, _, _⟩, pf⟩ := cells_in hin.1
      show Go.Code.wp _ _ _ { tmps := #[.pointer (some ⟨p, 0, none⟩), _, _, _, _, _, _, _, _, _, _, _, _, _, _], defers := _ } _
      cases l with
      | nil =>
        have HM := Lib.hid hm
        clear hm hk hu hin HK
        simp only [TN.ptr] at p1
        go_wp2
        go_ret
        rw [← HM.out]
        exact ⟨rfl, rfl⟩
      | node p1' c1 l1 m1 r1 v1 b1 =>
        have HE := Lib.hid (And.intro hm (And.intro hk hin.2.1))
        clear hm hk hu hin HK
        simp only [TN.ptr] at p1
        go_wp2_with fail
        go_roundg (gk - 1)
        case measure => have := HE.out.2.1; simp [TN.lc] at this; omega
        case rel => exact ⟨by simp [undef], ⟨.node p1' c1 l1 m1 r1 v1 b1, by simp, by have := HE.out.2.1; simp [TN.lc] at this ⊢; omega, rfl, HE.out.2.2, HE.out.1⟩, rfl⟩
theorem delMin_calls : ∀ (t : TN) (w : World), t.In w → t.ids.Nodup → t ≠ .nil →
    Calls Try.prog 46 #[.pointer t.ptr] w fun e w' => e = .returned (.pointer t.delMin.ptr) ∧ t.delMin.In w' ∧ Fr t.delMin.ids w w' := by
  intro t
  induction t with
  | nil => intro w _ _ h; exact absurd rfl h
  | node p c l m r v b ihl _ _ =>
    intro w hi hnd _
    obtain ⟨⟨p0, p1, p2, p3, _, _⟩, pf⟩ := cells_in hi.1
    obtain ⟨⟨d1, d2, d3⟩, nl, nm, nr, lm, lr, mr⟩ := nd3.1 hnd
    have HI := Lib.hid hi
    clear hi hnd
    show Calls _ _ #[.pointer (some ⟨p, 0, none⟩)] _ _
    cases l with
    | nil =>
      clear ihl
      simp only [TN.ptr] at p1
      go_enter Try.func46, Try.ntmps46
      go_wp2
      go_ret
      exact ⟨rfl, HI.out.2.2.2, Fr.refl _ _⟩
    | node p' c' l' m' r' v' b' =>
      have HH := Lib.hid (ihl w HI.out.2.1 nl (by simp))
      clear ihl
      obtain ⟨l0, hl0⟩ : ∃ l0, l0 = TN.node p' c' l' m' r' v' b' := ⟨_, rfl⟩
      have e : (TN.node p c (TN.node p' c' l' m' r' v' b') m r v b).delMin = .node p c l0.delMin m r v b := by rw [hl0]; rfl
      rw [e]
      have hsub : ∀ x ∈ l0.delMin.ids, x ∈ l0.ids := fun x hx => by
        obtain ⟨_, _, _, _, _, _, _, hp⟩ := TN.min_is l0 (by rw [hl0]; simp)
        exact hp.mem_iff.2 (List.mem_cons_of_mem _ (List.mem_append_right _ hx))
      rw [← hl0] at HH d1 lm lr HI
      have HS := Lib.hid hsub
      simp only [TN.ptr] at p1
      have hpp : l0.ptr = some ⟨p', 0, none⟩ := by rw [hl0]; rfl
      rw [hpp] at HH
      clear e hsub hpp hl0
      go_enter Try.func46, Try.ntmps46
      go_wp2_with fail
      refine HH.out.mono ?_
      rintro e w1 ⟨rfl, hin, hf⟩
      have hd : p ∉ l0.delMin.ids := fun hx => d1 (HS.out p hx)
      have HB1 := Lib.hid (HI.out.1.fr hf hd)
      have HE := Lib.hid (And.intro hin hf)
      clear hin hf
      have pf1 := HB1.out.frozen
      have q1 := HB1.out.cell 1
      go_wp2
      go_ret
      obtain ⟨hin, hf⟩ := HE.out
      have f1 : Fr [p] w1 (w1.setCell ⟨p, 1, none⟩ (.pointer l0.delMin.ptr)) := Fr.setCell w1 p 1 _ (by simp)
      have ne : ∀ {t : TN}, p ∉ t.ids → ∀ x ∈ t.ids, x ∉ [p] := fun ht x hx hm => by rw [List.mem_singleton] at hm; subst hm; exact ht hx
      refine ⟨rfl, ⟨HB1.out.set 1 _, hin.fr f1 (ne hd), (HI.out.2.2.1.fr hf fun x hx hl => lm x (HS.out x hl) hx).fr f1 (ne d2), (HI.out.2.2.2.fr hf fun x hx hl => lr x (HS.out x hl) hx).fr f1 (ne d3)⟩, ?_⟩
      exact hf.trans f1 (fun x hx => .inl (mem_ids.2 (.inr (.inl hx)))) (fun x hx => by rw [List.mem_singleton] at hx; exact .inl (mem_ids.2 (.inl hx)))
end Go.Proofs.Ytlpcddmcddenfaa.Kp
