/- tries in memory: delete, isUnused. -/
import Derived.Test.YtlpcddmcddenfaaTriD
namespace Go.Proofs.Ytlpcddmcddenfaa.Kp
open Go.RowKit Tri

def TN.del : TN → TN
  | .nil => .nil
  | .node _ _ l _ r _ _ => match r with
    | .nil => l
    | .node .. => match l with
      | .nil => r
      | .node .. => match r.minC with
        | .nil => .nil
        | .node p' c' _ m' _ v' b' => .node p' c' l m' r.delMin v' b'
theorem TN.del_er (t : TN) : t.del.er = t.er.del := by
  cases t with
  | nil => rfl
  | node p c l m r v b =>
    cases r with
    | nil => cases l <;> rfl
    | node pr cr lr mr rr vr br =>
      cases l with
      | nil => rfl
      | node pl cl ll ml rl vl bl =>
        have h1 := TN.minC_er (.node pr cr lr mr rr vr br)
        have h2 := TN.delMin_er (.node pr cr lr mr rr vr br)
        simp only [TN.del, TN.er, Tr.del] at h1 h2 ⊢
        rw [← h1, ← h2]
        cases TN.minC (.node pr cr lr mr rr vr br) <;> rfl
theorem TStep.sub {w : World} {t t' : TN} (hi : t'.In w) (hn : t'.ids.Nodup) (hs : ∀ x ∈ t'.ids, x ∈ t.ids) : TStep w t t'.er w t' := ⟨hi, rfl, fun x hx => .inl (hs x hx), hn, Fr.refl _ _⟩
theorem TStep.trans {w w1 w2 : World} {t t1 t2 : TN} {e1 e2 : Tr} (h : TStep w t e1 w1 t1) (k : TStep w1 t1 e2 w2 t2) : TStep w t e2 w2 t2 :=
  ⟨k.inn, k.er, fun i hi => (k.ids i hi).elim (h.ids i) (fun e => .inr (Nat.le_trans h.fr.size e)), k.nd, h.fr.trans k.fr (fun _ hx => .inl hx) h.ids⟩
set_option maxHeartbeats 1000000 in
theorem delete_calls (p : Nat) (c : UInt8) (l m r : TN) (v : Int) (b : Bool) (w : World) (hi : (TN.node p c l m r v b).In w) (hnd : (TN.node p c l m r v b).ids.Nodup) :
    Calls Try.prog 44 #[.pointer (some ⟨p, 0, none⟩)] w fun e w' => e = .returned (.pointer (TN.node p c l m r v b).del.ptr) ∧ TStep w (.node p c l m r v b) (TN.node p c l m r v b).del.er w' (TN.node p c l m r v b).del := by
  obtain ⟨⟨p0, p1, p2, p3, _, _⟩, pf⟩ := cells_in hi.1
  obtain ⟨⟨d1, d2, d3⟩, nl, nm, nr, lm, lr, mr⟩ := nd3.1 hnd
  have HI := Lib.hid hi
  clear hi hnd
  cases r with
  | nil =>
    have e : (TN.node p c l m .nil v b).del = l := rfl
    rw [e]
    clear e
    simp only [TN.ptr] at p3
    go_enter Try.func44, Try.ntmps44
    go_wp2
    go_ret
    exact ⟨rfl, TStep.sub HI.out.2.1 nl (fun x hx => mem_ids.2 (.inr (.inl hx)))⟩
  | node pr cr l2 mr2 rr vr br =>
    obtain ⟨r0, hr0⟩ : ∃ r0, r0 = TN.node pr cr l2 mr2 rr vr br := ⟨_, rfl⟩
    have hrp : r0.ptr = some ⟨pr, 0, none⟩ := by rw [hr0]; rfl
    cases l with
    | nil =>
      have e : (TN.node p c .nil m (TN.node pr cr l2 mr2 rr vr br) v b).del = r0 := by rw [hr0]; rfl
      rw [e]
      have hs : TStep w (.node p c .nil m (TN.node pr cr l2 mr2 rr vr br) v b) r0.er w r0 := by
        rw [hr0]
        exact TStep.sub HI.out.2.2.2 nr (fun x hx => mem_ids.2 (.inr (.inr (.inr hx))))
      have HS := Lib.hid hs
      rw [hrp]
      clear e hs hr0 hrp
      simp only [TN.ptr] at p1 p3
      go_enter Try.func44, Try.ntmps44
      go_wp2
      go_ret
      exact ⟨rfl, HS.out⟩
    | node pl cl ll ml rl vl bl =>
      obtain ⟨l0, hl0⟩ : ∃ l0, l0 = TN.node pl cl ll ml rl vl bl := ⟨_, rfl⟩
      have hlp : l0.ptr = some ⟨pl, 0, none⟩ := by rw [hl0]; rfl
      have hrn : r0 ≠ .nil := by rw [hr0]; simp
      obtain ⟨p', c', m', r', v', b', hm, hperm⟩ := TN.min_is r0 hrn
      have e : (TN.node p c (TN.node pl cl ll ml rl vl bl) m (TN.node pr cr l2 mr2 rr vr br) v b).del = .node p' c' l0 m' r0.delMin v' b' := by
        show (match (TN.node pr cr l2 mr2 rr vr br).minC with
          | .nil => TN.nil
          | .node p' c' _ m' _ v' b' => TN.node p' c' (TN.node pl cl ll ml rl vl bl) m' (TN.node pr cr l2 mr2 rr vr br).delMin v' b') = _
        rw [← hr0, ← hl0, hm]
      rw [e]
      rw [← hl0, ← hr0] at HI
      rw [← hl0, ← hr0]
      rw [← hr0] at d3 nr lr mr
      rw [← hl0] at d1 nl lm lr
      obtain ⟨hb, il, im, ir⟩ := HI.out
      have hmin := TN.minC_in ir
      rw [hm] at hmin
      have HC1 := Lib.hid (minChild_calls r0 hrn w ir)
      have HC2 := Lib.hid (delMin_calls r0 w ir nr hrn)
      rw [hm, show (TN.node p' c' .nil m' r' v' b').ptr = some ⟨p', 0, none⟩ from rfl] at HC1
      simp only [TN.ptr] at p1 p3
      rw [hrp] at HC1 HC2
      have hnd2 := (hperm.nodup_iff).1 nr
      rw [List.nodup_cons, List.nodup_append, List.mem_append, not_or] at hnd2
      have hsub : ∀ x, x = p' ∨ x ∈ m'.ids ∨ x ∈ r0.delMin.ids → x ∈ r0.ids := fun x hx => hperm.mem_iff.2 (by rw [List.mem_cons, List.mem_append]; exact hx)
      have HE := Lib.hid (And.intro hnd2 (And.intro hsub (And.intro hmin (And.intro hb (And.intro il im)))))
      have HL := Lib.hid hlp
      clear hnd2 hsub hmin hb il im ir hm hperm e hl0 hr0 hrp hlp hrn
      have HD := Lib.hid (And.intro d1 (And.intro d2 (And.intro d3 (And.intro nl (And.intro lm (And.intro lr mr))))))
      clear d1 d2 d3 nl nm nr lm lr mr
      go_enter Try.func44, Try.ntmps44
      go_wp2_with fail
      refine HC1.out.mono ?_
      rintro e w1 ⟨rfl, rfl⟩
      go_wp2_with fail
      refine HC2.out.mono ?_
      rintro e w1 ⟨rfl, hin, hf⟩
      obtain ⟨⟨⟨q1, q2⟩, q3, q4, q5⟩, hsub, hmin, hb, il, im⟩ := HE.out
      obtain ⟨d1, d2, d3, nl, lm, lr, mr⟩ := HD.out
      have HB1 := Lib.hid (hmin.1.fr hf q2)
      have hpd : p ∉ r0.delMin.ids := fun hx => d3 (hsub p (.inr (.inr hx)))
      have HB2 := Lib.hid (hb.fr hf hpd)
      have HR := Lib.hid (And.intro hin hf)
      have hpp : p ≠ p' := fun e => d3 (hsub p (.inl e))
      have pf1 := HB1.out.frozen
      have s1 := HB1.out.cell 1
      have s3 := HB1.out.cell 3
      have t1 := HB2.out.cell 1
      have t2 : w1.cell? ⟨p, 1, none⟩ = some (.pointer (some ⟨pl, 0, none⟩)) := by rw [← HL.out]; exact t1
      clear t1 q1 q2 q3 q4 q5 hsub hmin hb il im d1 d2 d3 nl lm lr mr hin hf hpd
      go_wp2
      go_ret
      obtain ⟨⟨⟨q1, q2⟩, q3, q4, q5⟩, hsub, hmin, hb, il, im⟩ := HE.out
      obtain ⟨d1, d2, d3, nl, lm, lr, mr⟩ := HD.out
      obtain ⟨hin, hf⟩ := HR.out
      rw [← HL.out]
      have hF : Fr [p'] w1 ((w1.setCell ⟨p', 3, none⟩ (.pointer r0.delMin.ptr)).setCell ⟨p', 1, none⟩ (.pointer l0.ptr)) := (Fr.setCell w1 p' 3 _ (by simp)).comp (Fr.setCell _ p' 1 _ (by simp))
      have ne : ∀ {t : TN}, p' ∉ t.ids → ∀ x ∈ t.ids, x ∉ [p'] := fun ht x hx hm => by rw [List.mem_singleton] at hm; subst hm; exact ht hx
      have hl1 : ∀ x ∈ l0.ids, x ∉ r0.delMin.ids := fun x hx hd => lr x hx (hsub x (.inr (.inr hd)))
      have hl2 : p' ∉ l0.ids := fun hx => lr p' hx (hsub p' (.inl rfl))
      refine ⟨rfl, ⟨⟨(HB1.out.set 3 _).set 1 _, (il.fr hf hl1).fr hF (ne hl2), (hmin.2.2.1.fr hf fun x hx hd => q5 x hx x hd rfl).fr hF (ne q1), hin.fr hF (ne q2)⟩, rfl, fun i hi => .inl ?_, nd3.2 ⟨⟨hl2, q1, q2⟩, nl, q3, q4, fun x hx hm => lr x hx (hsub x (.inr (.inl hm))), hl1, fun x hx hd => q5 x hx x hd rfl⟩, ?_⟩⟩
      · rcases mem_ids.1 hi with rfl | hi | hi | hi
        · exact mem_ids.2 (.inr (.inr (.inr (hsub _ (.inl rfl)))))
        · exact mem_ids.2 (.inr (.inl hi))
        · exact mem_ids.2 (.inr (.inr (.inr (hsub _ (.inr (.inl hi))))))
        · exact mem_ids.2 (.inr (.inr (.inr (hsub _ (.inr (.inr hi))))))
      · exact hf.trans hF (fun x hx => .inl (mem_ids.2 (.inr (.inr (.inr (hsub _ (.inr (.inr hx)))))))) (fun x hx => by rw [List.mem_singleton] at hx; exact .inl (mem_ids.2 (.inr (.inr (.inr (hsub _ (.inl hx)))))))
theorem unused_calls (p : Nat) (c : UInt8) (l m r : TN) (v : Int) (b : Bool) (w : World) (hi : (TN.node p c l m r v b).In w) :
    Calls Try.prog 43 #[.pointer (some ⟨p, 0, none⟩)] w fun e w' => e = .returned (.bool (TN.node p c l m r v b).er.unused) ∧ w = w' := by
  obtain ⟨⟨p0, p1, p2, p3, p4, p5⟩, pf⟩ := cells_in hi.1
  clear hi
  cases b with
  | true =>
    have e : (TN.node p c l m r v true).er.unused = false := rfl
    rw [e]
    go_enter Try.func43, Try.ntmps43
    go_wp2
    go_ret
    exact ⟨rfl, rfl⟩
  | false =>
    cases m with
    | nil =>
      have e : (TN.node p c l .nil r v false).er.unused = true := rfl
      rw [e]
      simp only [TN.ptr] at p2
      go_enter Try.func43, Try.ntmps43
      go_wp2
      go_ret
      exact ⟨rfl, rfl⟩
    | node pm cm lm mm rm vm bm =>
      have e : (TN.node p c l (.node pm cm lm mm rm vm bm) r v false).er.unused = false := rfl
      rw [e]
      simp only [TN.ptr] at p2
      go_enter Try.func43, Try.ntmps43
      go_wp2
      go_ret
      exact ⟨rfl, rfl⟩
end Go.Proofs.Ytlpcddmcddenfaa.Kp
