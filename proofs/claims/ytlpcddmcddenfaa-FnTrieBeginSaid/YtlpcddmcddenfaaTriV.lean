/- tries in memory: KeysWithPrefix; how great tries are. -/
import Derived.Test.YtlpcddmcddenfaaTriU
namespace Go.Proofs.Ytlpcddmcddenfaa.Tri
/-! how great a trie is -/
def Tr.cnt : Tr → Nat
  | .nil => 0
  | .node _ l m r _ b => l.cnt + m.cnt + r.cnt + (if b then 1 else 0)
theorem keys_cnt : ∀ t : Tr, t.keys.length = t.cnt
  | .nil => rfl
  | .node c l m r v b => by
    rw [keys_node]
    simp only [List.length_append, List.length_map, keys_cnt l, keys_cnt m, keys_cnt r, Tr.cnt]
    cases b <;> simp <;> omega
theorem put_nil_cnt (v : Int) : ∀ k : Txt, (Tr.put .nil k v).cnt ≤ 1 ∧ (Tr.put .nil k v).md ≤ k.length
  | [] => by rw [Tr.put]; simp [Tr.cnt, Tr.md]
  | a :: k => by
    have := put_nil_cnt v k
    rw [put_nil_eq]
    split
    · simp [Tr.cnt, Tr.md]
    · simp only [Tr.cnt, Tr.md, List.length_cons]; simp; omega
theorem put_cnt (v : Int) : ∀ (t : Tr) (k : Txt), (t.put k v).cnt ≤ t.cnt + 1 ∧ (t.put k v).md ≤ max t.md k.length
  | t, [] => by rw [Tr.put]; omega
  | .nil, a :: k => by have := put_nil_cnt v (a :: k); simp only [Tr.cnt, Tr.md] at *; omega
  | .node c l m r v0 b, a :: k => by
    have h1 := put_cnt v l (a :: k)
    have h2 := put_cnt v r (a :: k)
    have h3 := put_cnt v m k
    rw [put_node_eq]
    simp only [List.length_cons] at *
    split
    · simp only [Tr.cnt, Tr.md]; omega
    · split
      · simp only [Tr.cnt, Tr.md]; omega
      · split
        · simp only [Tr.cnt, Tr.md]; cases b <;> simp <;> omega
        · simp only [Tr.cnt, Tr.md]; omega
termination_by t k => (k.length, t)
theorem delMin_cnt : ∀ t : Tr, t.delMin.cnt ≤ t.cnt ∧ t.delMin.md ≤ t.md
  | .nil => ⟨Nat.le_refl _, Nat.le_refl _⟩
  | .node c .nil m r v b => by simp only [Tr.delMin, Tr.cnt, Tr.md]; omega
  | .node c (.node c1 l1 m1 r1 v1 b1) m r v b => by
    have := delMin_cnt (.node c1 l1 m1 r1 v1 b1)
    show (Tr.node c (Tr.delMin (.node c1 l1 m1 r1 v1 b1)) m r v b).cnt ≤ _ ∧ (Tr.node c (Tr.delMin (.node c1 l1 m1 r1 v1 b1)) m r v b).md ≤ _
    rw [Tr.cnt, Tr.md]
    rw [show (Tr.node c (.node c1 l1 m1 r1 v1 b1) m r v b).cnt = (Tr.node c1 l1 m1 r1 v1 b1).cnt + m.cnt + r.cnt + (if b then 1 else 0) from rfl, show (Tr.node c (.node c1 l1 m1 r1 v1 b1) m r v b).md = max (Tr.node c1 l1 m1 r1 v1 b1).md (max (m.md + 1) r.md) from rfl]
    omega
theorem minC_cnt : ∀ t : Tr, ∀ c l m r v b, t.minC = .node c l m r v b → m.cnt + (if b then 1 else 0) + t.delMin.cnt ≤ t.cnt ∧ m.md + 1 ≤ t.md
  | .nil, _, _, _, _, _, _, h => by cases h
  | .node c .nil m r v b, _, _, _, _, _, _, h => by
    cases h
    simp only [Tr.delMin, Tr.cnt, Tr.md]; omega
  | .node c0 (.node c1 l1 m1 r1 v1 b1) m0 r0 v0 b0, c, l, m, r, v, b, h => by
    have := minC_cnt (.node c1 l1 m1 r1 v1 b1) c l m r v b h
    show m.cnt + _ + (Tr.node c0 (Tr.delMin (.node c1 l1 m1 r1 v1 b1)) m0 r0 v0 b0).cnt ≤ _ ∧ _
    rw [Tr.cnt]
    rw [show (Tr.node c0 (.node c1 l1 m1 r1 v1 b1) m0 r0 v0 b0).cnt = (Tr.node c1 l1 m1 r1 v1 b1).cnt + m0.cnt + r0.cnt + (if b0 then 1 else 0) from rfl, show (Tr.node c0 (.node c1 l1 m1 r1 v1 b1) m0 r0 v0 b0).md = max (Tr.node c1 l1 m1 r1 v1 b1).md (max (m0.md + 1) r0.md) from rfl]
    omega
theorem del_cnt (t : Tr) : t.del.cnt ≤ t.cnt ∧ t.del.md ≤ t.md := by
  cases t with
  | nil => exact ⟨Nat.le_refl _, Nat.le_refl _⟩
  | node c l m r v b =>
    cases r with
    | nil => simp only [Tr.del, Tr.cnt, Tr.md]; omega
    | node cr lr mr rr vr br =>
      cases l with
      | nil => simp only [Tr.del]; rw [show (Tr.node c .nil m (.node cr lr mr rr vr br) v b).cnt = 0 + m.cnt + (Tr.node cr lr mr rr vr br).cnt + (if b then 1 else 0) from rfl, show (Tr.node c .nil m (.node cr lr mr rr vr br) v b).md = max 0 (max (m.md + 1) (Tr.node cr lr mr rr vr br).md) from rfl]; omega
      | node cl ll ml rl vl bl =>
        have hd := delMin_cnt (.node cr lr mr rr vr br)
        rw [show (Tr.node c (.node cl ll ml rl vl bl) m (.node cr lr mr rr vr br) v b).del = (match Tr.minC (.node cr lr mr rr vr br) with
          | .nil => Tr.nil
          | .node c' _ m' _ v' b' => .node c' (.node cl ll ml rl vl bl) m' (Tr.delMin (.node cr lr mr rr vr br)) v' b') from rfl]
        rw [show (Tr.node c (.node cl ll ml rl vl bl) m (.node cr lr mr rr vr br) v b).cnt = (Tr.node cl ll ml rl vl bl).cnt + m.cnt + (Tr.node cr lr mr rr vr br).cnt + (if b then 1 else 0) from rfl, show (Tr.node c (.node cl ll ml rl vl bl) m (.node cr lr mr rr vr br) v b).md = max (Tr.node cl ll ml rl vl bl).md (max (m.md + 1) (Tr.node cr lr mr rr vr br).md) from rfl]
        cases hx : Tr.minC (.node cr lr mr rr vr br) with
        | nil => simp [Tr.cnt, Tr.md]
        | node c' l' m' r' v' b' =>
          have := minC_cnt _ _ _ _ _ _ _ hx
          show (Tr.node c' (.node cl ll ml rl vl bl) m' (Tr.delMin (.node cr lr mr rr vr br)) v' b').cnt ≤ _ ∧ (Tr.node c' (.node cl ll ml rl vl bl) m' (Tr.delMin (.node cr lr mr rr vr br)) v' b').md ≤ _
          rw [show (Tr.node c' (.node cl ll ml rl vl bl) m' (Tr.delMin (.node cr lr mr rr vr br)) v' b').cnt = (Tr.node cl ll ml rl vl bl).cnt + m'.cnt + (Tr.delMin (.node cr lr mr rr vr br)).cnt + (if b' then 1 else 0) from rfl, show (Tr.node c' (.node cl ll ml rl vl bl) m' (Tr.delMin (.node cr lr mr rr vr br)) v' b').md = max (Tr.node cl ll ml rl vl bl).md (max (m'.md + 1) (Tr.delMin (.node cr lr mr rr vr br)).md) from rfl]
          omega
theorem clean_cnt (t : Tr) : t.clean.cnt ≤ t.cnt ∧ t.clean.md ≤ t.md := by
  unfold Tr.clean
  split
  · exact del_cnt t
  · exact ⟨Nat.le_refl _, Nat.le_refl _⟩
theorem rem_cnt : ∀ (t : Tr) (k : Txt), (t.rem k).cnt ≤ t.cnt ∧ (t.rem k).md ≤ t.md
  | .nil, k => by rw [Tr.rem]; exact ⟨Nat.le_refl _, Nat.le_refl _⟩
  | .node c l m r v b, [] => by rw [Tr.rem]; exact ⟨Nat.le_refl _, Nat.le_refl _⟩
  | .node c l m r v b, a :: k => by
    have h1 := rem_cnt l (a :: k)
    have h2 := rem_cnt r (a :: k)
    have h3 := rem_cnt m k
    rw [Tr.rem]
    split
    · have := clean_cnt (Tr.node c (l.rem (a :: k)) m r v b)
      simp only [Tr.cnt, Tr.md] at *; omega
    · split
      · have := clean_cnt (Tr.node c l m (r.rem (a :: k)) v b)
        simp only [Tr.cnt, Tr.md] at *; omega
      · split
        · have := clean_cnt (Tr.node c l m r 0 false)
          simp only [Tr.cnt, Tr.md] at *; simp at *; omega
        · have := clean_cnt (Tr.node c l (m.rem k) r v b)
          simp only [Tr.cnt, Tr.md] at *; omega
/-- how great the trie is behind a script. -/
def St.Fit (s : St) (n : Nat) : Prop := s.t.cnt ≤ n ∧ s.t.md ≤ 2147483647 ∧ -(n : Int) ≤ s.n ∧ s.n ≤ n
theorem fit_new : new0.Fit 0 := ⟨Nat.le_refl _, by simp [new0, Tr.md], by simp [new0], by simp [new0]⟩
theorem fit_next {s : St} {n : Nat} (h : s.Fit n) (w : WordD) (hw : w.key.length ≤ 2147483647) : (nextW w s).Fit (n + 1) := by
  obtain ⟨h1, h2, h3, h4⟩ := h
  unfold nextW putW remW
  split
  · split
    · exact ⟨by omega, h2, by omega, by omega⟩
    · have := put_cnt w.val s.t w.key
      refine ⟨by show (s.t.put w.key w.val).cnt ≤ _; omega, by show (s.t.put w.key w.val).md ≤ _; omega, ?_, ?_⟩ <;> · show _ ≤ _; dsimp only; split <;> omega
  · split
    · split
      · exact ⟨by omega, h2, by omega, by omega⟩
      · have := rem_cnt s.t w.key
        exact ⟨by show (s.t.rem w.key).cnt ≤ _; omega, by show (s.t.rem w.key).md ≤ _; omega, by show _ ≤ s.n - 1; omega, by show s.n - 1 ≤ _; omega⟩
    · exact ⟨by omega, h2, by omega, by omega⟩
theorem fit_run (l : List WordD) (hl : ∀ w ∈ l, w.key.length ≤ 2147483647) : ∀ k, (runS new0 (l.take k)).Fit k
  | 0 => fit_new
  | k + 1 => by
    have ih := fit_run l hl k
    cases h : l[k]? with
    | none =>
      have hk := List.getElem?_eq_none_iff.1 h
      rw [List.take_of_length_le (by omega)] at ih ⊢
      obtain ⟨h1, h2, h3, h4⟩ := ih
      exact ⟨by omega, h2, by omega, by omega⟩
    | some w =>
      rw [runS_take l new0 h]
      exact fit_next ih w (hl w (List.mem_of_getElem? h))
end Go.Proofs.Ytlpcddmcddenfaa.Tri
namespace Go.Proofs.Ytlpcddmcddenfaa.Kp
open Go.RowKit Tri
theorem own_one (w : World) (B : Nat) (hB : B ≤ w.heap.size) (T : TypeId) (v : Value) : (w.alloc (.cells #[v] T)).ownsRow B T 1 (.slice (some ⟨w.heap.size, 0, none⟩) 1 1) 1 [v] :=
  ⟨rfl, .inr ⟨w.heap.size, 1, #[v], rfl, hB, Blk.new w #[v] T, Nat.le_refl _, by unfold maxLen; omega, rfl, rfl⟩⟩
theorem own_mono {w : World} {B B' : Nat} {e : TypeId} {s n : Nat} {v : Value} {xs : List Value} (h : w.ownsRow B e s v n xs) (hB : B' ≤ B) : w.ownsRow B' e s v n xs := by
  refine ⟨h.1, h.2.imp id ?_⟩
  rintro ⟨g, cap, cur, e1, e2, e3⟩
  exact ⟨g, cap, cur, e1, Nat.le_trans hB e2, e3⟩
set_option maxHeartbeats 2000000 in
theorem Prefix_calls (w : World) (B tb : Nat) (s : St) (t : TN) (K : Txt) (H : TT w B tb s t) (hK : K.length ≤ 2147483647) (hm : s.t.md ≤ 2147483647) (hk : s.t.keys.length ≤ 4294967296) (hp : (kwp s.t K).length ≤ 4294967296) :
    Calls Try.prog 30 #[.pointer (some ⟨tb, 0, none⟩), str K] w fun e w' => ∃ q, e = .returned q ∧ w'.ownsRow w.heap.size 9 1 q (kwp s.t K).length ((kwp s.t K).map str) ∧ Below w.heap.size w w' := by
  have hsz := size_str K
  by_cases h0 : K = []
  · have e : kwp s.t K = s.t.keys := by unfold kwp; rw [if_pos h0]
    rw [e]
    have h1 : K.length = 0 := by rw [h0]; rfl
    have HC := Lib.hid (Keys_calls w B tb s t H (by omega) hk)
    clear e h0 H hm hk hp
    go_enter Try.func30, Try.ntmps30
    go_wp2_with fail
    refine HC.out.mono ?_
    rintro e w1 ⟨q, rfl, ho, hb⟩
    have HO := Lib.hid (And.intro ho hb)
    clear ho hb
    go_wp2_with fail
    go_ret
    exact ⟨q, rfl, HO.out⟩
  · have e : kwp s.t K = s.t.pre K := by unfold kwp; rw [if_neg h0]
    have h1 : 0 < K.length := List.length_pos_iff.2 h0
    have h2 : ¬ K.length = 0 := by omega
    have h3 : ¬ (K.length : Int) = 0 := by omega
    have hb0 : ((K.length : Int) == 0) = false := by rw [beq_eq_false_iff_ne]; exact h3
    have c1 : w.cell? ⟨tb, 1, none⟩ = some (.pointer t.ptr) := H.blk.cell 1
    have HC := Lib.hid (get_calls (.pointer (some ⟨tb, 0, none⟩)) K hK h0 t w H.inn)
    obtain ⟨u, hu⟩ : ∃ u, u = t.get K := ⟨_, rfl⟩
    have hpre : s.t.pre K = match u.er with
      | .nil => []
      | .node _ _ m _ _ b => (if b then [K] else []) ++ m.keys.map (K ++ ·) := by rw [hu, TN.get_er, H.er]; rfl
    have hin : u.In w := by rw [hu]; exact TN.get_in K H.inn
    have hmd : ∀ (t : Tr) (K : Txt), (t.get K).md ≤ t.md := by
      intro t
      induction t with
      | nil => intro K; exact Nat.le_refl _
      | node c l m r v b i1 i2 i3 =>
        intro K
        cases K with
        | nil => simp only [Tr.get, Tr.md]; omega
        | cons a k =>
          have j1 := i1 (a :: k)
          have j2 := i2 k
          have j3 := i3 (a :: k)
          simp only [Tr.get]
          split
          · simp only [Tr.md]; omega
          · split
            · simp only [Tr.md]; omega
            · split
              · exact Nat.le_refl _
              · simp only [Tr.md]; omega
    have hum : u.er.md ≤ 2147483647 := by rw [hu, TN.get_er, H.er]; exact Nat.le_trans (hmd _ _) hm
    rw [← hu] at HC
    rw [e] at hp ⊢
    obtain ⟨q, hq⟩ : ∃ q, q = u.ptr := ⟨_, rfl⟩
    rw [← hq] at HC
    have HQ := Lib.hid hq
    have HI := Lib.hid (And.intro hin hum)
    obtain ⟨ks, hks⟩ : ∃ ks, ks = s.t.pre K := ⟨_, rfl⟩
    rw [← hks] at hp hpre ⊢
    have HP := Lib.hid (And.intro hpre hp)
    clear hq hu hpre hin hmd hum h0 e H hm hk hks hp
    go_enter Try.func30, Try.ntmps30
    go_wp2_with fail
    refine HC.out.mono ?_
    rintro e w1 ⟨rfl, rfl⟩
    cases u with
    | nil =>
      obtain rfl : q = none := HQ.out
      have hk0 : ks = [] := HP.out.1
      go_wp2
      go_ret
      refine ⟨_, rfl, ?_, Below.refl _ _⟩
      rw [hk0]
      exact ⟨rfl, .inl ⟨rfl, rfl⟩⟩
    | node p c l m r v b =>
      obtain ⟨⟨p0, p1, p2, p3, p4, p5⟩, pf⟩ := cells_in HI.out.1.1
      obtain rfl : q = some ⟨p, 0, none⟩ := HQ.out
      obtain ⟨hk0, hp⟩ := HP.out
      have hpl := HI.out.1.1.lt
      have hmm : m.er.md + 1 ≤ 2147483647 := by have := HI.out.2; simp only [TN.er, Tr.md] at this; omega
      cases b with
      | false =>
        obtain ⟨bv, wb, hcv, hbr, hbel, hob⟩ := run_text_bytes w K (by omega) w.heap.size (Nat.le_refl _)
        have hk1 : ks = m.er.keys.map (K ++ ·) := hk0
        have HC2 := Lib.hid (coll_calls (.pointer (some ⟨tb, 0, none⟩)) w.heap.size m wb bv (.slice none 0 0) K [] (HI.out.1.2.2.1.below hbel) hbr ⟨rfl, .inl ⟨rfl, rfl⟩⟩ hbel.size (by omega) (by rw [hk1] at hp; simpa using hp))
        have HB := Lib.hid (And.intro hbel hob)
        have HK := Lib.hid hk1
        clear hk0 hk1 hbr hbel hob
        go_wp2_with fail
        refine HC2.out.mono ?_
        rintro e w2 ⟨q2, rfl, C⟩
        have HX := Lib.hid C
        clear C
        go_wp2_with fail
        go_ret
        have ho := HX.out.own
        rw [List.nil_append] at ho
        refine ⟨q2, rfl, by rw [HK.out]; exact ho, HB.out.1.trans (HX.out.fr.below (fun x hx => ?_) HB.out.1.size)⟩
        rcases List.mem_append.1 hx with hx | hx
        · rw [mem_ob, HB.out.2] at hx; cases hx; exact Nat.le_refl _
        · simp [ob, Value.ownBlock] at hx
      | true =>
        obtain ⟨bv, wb, hcv, hbr, hbel, hob⟩ := run_text_bytes (w.alloc (.cells #[str K] 9)) K (by omega) w.heap.size (by simp)
        have hba := (Below.refl w.heap.size w).alloc (Nat.le_refl _) (.cells #[str K] 9)
        have hbe : Below w.heap.size w wb := hba.trans (hbel.mono (by simp))
        have hk1 : ks = [K] ++ m.er.keys.map (K ++ ·) := hk0
        have hoq := kd_below hbel (own_one w w.heap.size (Nat.le_refl _) 9 (str K))
        have HC2 := Lib.hid (coll_calls (.pointer (some ⟨tb, 0, none⟩)) w.heap.size m wb bv (.slice (some ⟨w.heap.size, 0, none⟩) 1 1) K [K] (HI.out.1.2.2.1.below hbe) hbr hoq hbe.size (by omega) (by rw [hk1] at hp; simpa [Nat.add_comm] using hp))
        have HB := Lib.hid (And.intro hbe hob)
        have HK := Lib.hid hk1
        clear hk0 hk1 hbr hbel hob hba hbe hoq
        go_wp2_with fail
        refine HC2.out.mono ?_
        rintro e w2 ⟨q2, rfl, C⟩
        have HX := Lib.hid C
        clear C
        go_wp2_with fail
        go_ret
        have ho := HX.out.own
        refine ⟨q2, rfl, by rw [HK.out]; exact ho, HB.out.1.trans (HX.out.fr.below (fun x hx => ?_) HB.out.1.size)⟩
        rcases List.mem_append.1 hx with hx | hx
        · rw [mem_ob, HB.out.2] at hx; cases hx; simp
        · simp [ob, Value.ownBlock] at hx; omega
end Go.Proofs.Ytlpcddmcddenfaa.Kp
