/- B-trees: what an insertion leaves of a tree; leaves. B-trees: what an insertion leaves of an inner node, if it is right of its parts; no walk. -/
import Derived.Test.YtjbelfbfhcmgeaaBtI2
namespace Go.Proofs.Ytjbelfbfhcmgeaa.Kp
open Go.RowKit Bt

def ptrO (h : Nat) : Option (BN h) → Value
  | none => .pointer none
  | some u => .pointer (some ⟨BN.id h u, 0, none⟩)
def idsO (h : Nat) : Option (BN h) → List Nat
  | none => []
  | some u => BN.ids h u
structure InsR (w : World) (h : Nat) (t : BN h) (res : BE h × Option (BE h)) (t' : BN h) (u : Option (BN h)) (w' : World) : Prop where
  er : BN.er h t' = res.1
  eru : u.map (BN.er h) = res.2
  idq : BN.id h t' = BN.id h t
  inn : BN.In w' h t'
  inu : ∀ v, u = some v → BN.In w' h v
  nd : (BN.ids h t' ++ idsO h u).Nodup
  sub : ∀ i ∈ BN.ids h t' ++ idsO h u, i ∈ BN.ids h t ∨ w.heap.size ≤ i
  fr : Fr (BN.ids h t) w w'
def InsP (w : World) (h : Nat) (t : BN h) (res : BE h × Option (BE h)) (e : Ending) (w' : World) : Prop := ∃ t' u, e = .returned (ptrO h u) ∧ InsR w h t res t' u w'
/-- the order stays readable while the nodes S are written. -/
structure TI (w : World) (tb : Nat) (f : Value) (xs : List Int) (B : Nat) (S : List Nat) : Prop where
  less : w.cell? ⟨tb, 3, none⟩ = some f
  ok : LessOk w B f xs
  hB : B ≤ w.heap.size
  hS : ∀ i ∈ S, B ≤ i
  htb : tb ∉ S
theorem TI.sr {w : World} {tb : Nat} {f : Value} {xs : List Int} {B : Nat} {S : List Nat} (h : TI w tb f xs B S) : SR w tb f xs := ⟨h.less, lessOk_mono h.ok h.hB⟩
theorem TI.fr {w w' : World} {tb : Nat} {f : Value} {xs : List Int} {B : Nat} {S S' : List Nat} (h : TI w tb f xs B S) (hf : Fr S w w') (h1 : ∀ i ∈ S', B ≤ i) (h2 : tb ∉ S') : TI w' tb f xs B S' :=
  ⟨hf.cell h.less h.htb, h.ok.below (hf.below h.hS h.hB), Nat.le_trans h.hB hf.size, h1, h2⟩
theorem TI.sub {w : World} {tb : Nat} {f : Value} {xs : List Int} {B : Nat} {S S' : List Nat} (h : TI w tb f xs B S) (hs : ∀ i ∈ S', i ∈ S) : TI w tb f xs B S' :=
  ⟨h.less, h.ok, h.hB, fun i hi => h.hS i (hs i hi), fun hi => h.htb (hs _ hi)⟩
def InsOk (xs : List Int) (tb : Nat) (f : Value) (B : Nat) (key val : Int) (vld : Bool) (h : Nat) : Prop := ∀ (t : BN h) (w : World), TI w tb f xs B (BN.ids h t) → BN.In w h t → (BN.ids h t).Nodup → Bt.Wf (rankOf xs) h (BN.er h t) →
    Calls Try.prog 56 #[.pointer (some ⟨tb, 0, none⟩), .pointer (some ⟨BN.id h t, 0, none⟩), .int .i64 key, .int .i64 val, .int .i64 (h : Nat), .bool vld] w (InsP w h t (insE (rankOf xs) h (BN.er h t) key val vld))
theorem map_insAt {α β : Type} (g : α → β) (j : Nat) (x : α) (l : List α) : (insAt j x l).map g = insAt j (g x) (l.map g) := by
  unfold insAt; simp [List.map_take, List.map_drop]
def entL (r : Ent) : LE := (r.key, r.val, r.valid)
theorem leafIn (w : World) (b : Nat) (rows : List Ent) (h : ND w b rows) : BN.In w 0 (b, rows.map entL) := ⟨rows, h, rfl⟩
/-- a leaf behind an insertion. -/
theorem tail_leaf {w w' : World} {b : Nat} {ins : List Ent} {e : Ending} {es : List LE} (hb : b < w.heap.size) (h : TailP w b ins e w') : InsP w 0 (b, es) (split (ins.map entL)) e w' := by
  rcases h with ⟨hl, rfl, h1, h2⟩ | ⟨hl, nb, rfl, hnb, h1, h2, h3⟩
  · have hs : split (ins.map entL) = (ins.map entL, none) := by unfold split; rw [if_pos (by simpa using hl)]
    rw [hs]
    refine ⟨(b, ins.map entL), none, rfl, rfl, rfl, rfl, leafIn w' b ins h1, (fun v hv => by cases hv), ?_, ?_, h2⟩
    · show ([b] ++ []).Nodup; simp
    · intro i hi
      replace hi : i ∈ [b] ++ [] := hi
      simp at hi; subst hi; exact .inl (List.mem_singleton.2 rfl)
  · have hs : split (ins.map entL) = ((ins.take 32).map entL, some ((ins.drop 32).map entL)) := by unfold split; rw [if_neg (by simp; omega)]; rw [List.map_take, List.map_drop]
    rw [hs]
    refine ⟨(b, (ins.take 32).map entL), some (nb, (ins.drop 32).map entL), rfl, rfl, rfl, rfl, leafIn w' b _ h1, (fun v hv => by cases hv; exact leafIn w' nb _ h2), ?_, ?_, h3⟩
    · show ([b] ++ [nb]).Nodup
      simp; omega
    · intro i hi
      replace hi : i ∈ [b] ++ [nb] := hi
      simp at hi
      rcases hi with rfl | rfl
      · exact .inl (List.mem_singleton.2 rfl)
      · exact .inr hnb
theorem cmp_one {xs : List Int} {a b : Int} (h : rankOf xs b < rankOf xs a) : cmpOf xs a b = 1 := by
  unfold cmpOf; rw [if_neg (by omega), if_pos h]
theorem ins_zero (xs : List Int) (tb : Nat) (f : Value) (B : Nat) (key val : Int) (vld : Bool) : InsOk xs tb f B key val vld 0 := by
  intro t w hti hin hnd hw
  obtain ⟨b, es⟩ : Nat × List LE := t
  obtain ⟨rows, h1, h2⟩ : LeafIn w (b, es) := hin
  obtain ⟨hr, hl⟩ : WfL (rankOf xs) es := hw
  simp only at h1 h2
  have hlen : rows.length = es.length := by rw [← h2]; simp
  have hl64 : rows.length < 64 := by rw [hlen]; exact hl
  obtain ⟨P, Q, e0, g1, g2, g3⟩ := jl_split (r := rankOf xs) key es
  obtain ⟨j, hjq⟩ : ∃ j, j = jl (rankOf xs) key es := ⟨_, rfl⟩
  rw [← hjq] at g1
  have hel := congrArg List.length e0
  rw [List.length_append] at hel
  have hjle : j ≤ rows.length := by omega
  have hrow : ∀ (i : Nat) e, rows[i]? = some e → es[i]? = some (e.key, e.val, e.valid) := fun i e he => by rw [← h2, List.getElem?_map, he]; rfl
  have hlow : ∀ (i : Nat) e, i < j → rows[i]? = some e → cmpOf xs key e.key = 1 := by
    intro i e hi he
    have := hrow i e he
    rw [e0, List.getElem?_append_left (by omega)] at this
    exact cmp_one (g2 _ (List.mem_of_getElem? this))
  show Calls Try.prog 56 #[.pointer (some ⟨tb, 0, none⟩), .pointer (some ⟨b, 0, none⟩), .int .i64 key, .int .i64 val, .int .i64 0, .bool vld] w (InsP w 0 (b, es) (insL (rankOf xs) key val vld es))
  have hnew : (∀ e, es[j]? = some e → ¬ rankOf xs e.1 = rankOf xs key) → insL (rankOf xs) key val vld es = split (insAt (j) (key, val, vld) es) → Calls Try.prog 56 #[.pointer (some ⟨tb, 0, none⟩), .pointer (some ⟨b, 0, none⟩), .int .i64 key, .int .i64 val, .int .i64 0, .bool vld] w (InsP w 0 (b, es) (insL (rankOf xs) key val vld es)) := by
    intro hne hins
    refine (insNew_calls xs tb b f rows key val vld (j) w hti.sr h1 hl64 hjle hlow ?_).mono fun e w' ht => ?_
    · by_cases c : j = rows.length
      · exact .inl c
      · obtain ⟨e, he⟩ : ∃ e, rows[j]? = some e := ⟨_, List.getElem?_eq_getElem (by omega)⟩
        refine .inr ⟨e, he, ?_⟩
        have h5 := hrow _ e he
        have h6 := hne _ h5
        rw [e0, List.getElem?_append_right (by omega)] at h5
        rw [cmp_lt]
        have h7 : Q.head? = some (e.key, e.val, e.valid) := by
          rw [List.head?_eq_getElem?, ← h5]
          congr 1
          omega
        have := g3 _ h7
        simp only at this h6
        omega
    · have := tail_leaf (es := es) h1.lt ht
      rw [hins]
      rwa [map_insAt, show rows.map entL = es from h2] at this
  cases hq : es[j]? with
  | none => exact hnew (fun e he => by rw [hq] at he; cases he) (by unfold insL; rw [← hjq, hq])
  | some e =>
    by_cases c : rankOf xs e.1 = rankOf xs key
    · have hins : insL (rankOf xs) key val vld es = (es.set (j) (e.1, val, vld), none) := by unfold insL; rw [← hjq, hq]; simp only [if_pos c]
      have hjl : j < rows.length := by rw [hlen]; exact (List.getElem?_eq_some_iff.1 hq).1
      obtain ⟨ej, hej⟩ : ∃ ej, rows[j]? = some ej := ⟨_, List.getElem?_eq_getElem hjl⟩
      have hee := hrow _ ej hej
      rw [hq] at hee
      cases hee
      refine (insSet_calls xs tb b f rows key val vld _ ej w hti.sr h1 hl64 hej hlow (by rw [cmp_zero]; exact c.symm)).mono fun e' w' ht => ?_
      obtain ⟨rfl, k1, k2⟩ := ht
      rw [hins]
      refine ⟨(b, (rows.set (j) ⟨ej.key, val, vld, ej.next⟩).map entL), none, rfl, ?_, rfl, rfl, leafIn w' b _ k1, (fun v hv => by cases hv), ?_, ?_, k2⟩
      · show (rows.set _ _).map entL = es.set _ _
        rw [List.map_set, show rows.map entL = es from h2]; rfl
      · show ([b] ++ []).Nodup; simp
      · intro i hi
        replace hi : i ∈ [b] ++ [] := hi
        simp at hi; subst hi; exact .inl (List.mem_singleton.2 rfl)
    · exact hnew (fun e' he => by rw [hq] at he; cases he; exact c) (by unfold insL; rw [← hjq, hq]; simp only [if_neg c])
end Go.Proofs.Ytjbelfbfhcmgeaa.Kp
namespace Go.Proofs.Ytjbelfbfhcmgeaa.Kp
open Go.RowKit Bt

def flatI {h : Nat} (l : List (Int × BN h)) : List Nat := l.flatMap fun e => BN.ids h e.2
theorem flatI_append {h : Nat} (a b : List (Int × BN h)) : flatI (a ++ b) = flatI a ++ flatI b := List.flatMap_append ..
theorem flatI_cons {h : Nat} (e : Int × BN h) (b : List (Int × BN h)) : flatI (e :: b) = BN.ids h e.2 ++ flatI b := rfl
theorem nodup_swap {X C C' Y : List Nat} {N : Nat} (h : (X ++ (C ++ Y)).Nodup) (h1 : C'.Nodup) (h2 : ∀ i ∈ C', i ∈ C ∨ N ≤ i) (h3 : ∀ i ∈ X ++ Y, i < N) : (X ++ (C' ++ Y)).Nodup := by
  rw [List.nodup_append] at h ⊢
  obtain ⟨a1, a2, a3⟩ := h
  rw [List.nodup_append] at a2
  obtain ⟨b1, b2, b3⟩ := a2
  refine ⟨a1, List.nodup_append.2 ⟨h1, b2, fun i hi j hj => ?_⟩, fun i hi j hj => ?_⟩
  · rcases h2 i hi with q | q
    · exact b3 i q j hj
    · have := h3 j (List.mem_append_right _ hj); omega
  · rcases List.mem_append.1 hj with hj | hj
    · rcases h2 j hj with q | q
      · exact a3 i hi j (List.mem_append_left _ q)
      · have := h3 i (List.mem_append_left _ hi); omega
    · exact a3 i hi j (List.mem_append_right _ hj)
/-- an inner node, its part e in hand. -/
structure InH (w : World) (h : Nat) (b : Nat) (A P : List (Int × BN h)) (e : Int × BN h) (rows : List Ent) : Prop where
  nd : ND w b rows
  map : rows.map (fun r => (r.key, r.next)) = (A ++ e :: P).map (kidP (BN.id h))
  kids : ∀ x ∈ A ++ e :: P, BN.In w h x.2
  nodup : (b :: (flatI A ++ (BN.ids h e.2 ++ flatI P))).Nodup
theorem InH.lt {w : World} {h b : Nat} {A P : List (Int × BN h)} {e : Int × BN h} {rows : List Ent} (H : InH w h b A P e rows) : ∀ i ∈ (b :: flatI A) ++ flatI P, i < w.heap.size := by
  intro i hi
  rcases List.mem_append.1 hi with hi | hi
  · rcases List.mem_cons.1 hi with rfl | hi
    · exact H.nd.lt
    · obtain ⟨x, hx, hi⟩ := List.mem_flatMap.1 hi
      exact (H.kids x (by simp [hx])).lt i hi
  · obtain ⟨x, hx, hi⟩ := List.mem_flatMap.1 hi
    exact (H.kids x (by simp [hx])).lt i hi
theorem InH.below {w w' : World} {h b : Nat} {A P : List (Int × BN h)} {e : Int × BN h} {rows : List Ent} (H : InH w h b A P e rows) (hb : Below w.heap.size w w') : InH w' h b A P e rows :=
  ⟨H.nd.below hb H.nd.lt, H.map, fun x hx => (H.kids x hx).below hb, H.nodup⟩
theorem InH.far {w : World} {h b : Nat} {A P : List (Int × BN h)} {e : Int × BN h} {rows : List Ent} (H : InH w h b A P e rows) : b ∉ BN.ids h e.2 ∧ ∀ x ∈ A ++ P, ∀ i ∈ BN.ids h x.2, i ∉ BN.ids h e.2 := by
  have hn := H.nodup
  rw [List.nodup_cons, List.nodup_append, List.nodup_append] at hn
  obtain ⟨n1, n2, ⟨n3, n4, n5⟩, n6⟩ := hn
  refine ⟨fun hb => n1 (by simp [hb]), fun x hx i hi he => ?_⟩
  rcases List.mem_append.1 hx with hx | hx
  · exact n6 i (List.mem_flatMap.2 ⟨x, hx, hi⟩) i (List.mem_append_left _ he) rfl
  · exact n5 i he i (List.mem_flatMap.2 ⟨x, hx, hi⟩) rfl
/-- the part has been written. -/
theorem InH.kid {w w2 : World} {h b : Nat} {A P : List (Int × BN h)} {e : Int × BN h} {rows : List Ent} {res : BE h × Option (BE h)} {c : BN h} {u : Option (BN h)} (H : InH w h b A P e rows) (R : InsR w h e.2 res c u w2) :
    ND w2 b rows ∧ rows.map (fun r => (r.key, r.next)) = (A ++ (e.1, c) :: P).map (kidP (BN.id h)) ∧ (∀ x ∈ A ++ (e.1, c) :: P, BN.In w2 h x.2) ∧ (b :: (flatI A ++ ((BN.ids h c ++ idsO h u) ++ flatI P))).Nodup ∧ (∀ i ∈ b :: (flatI A ++ ((BN.ids h c ++ idsO h u) ++ flatI P)), i < w2.heap.size) := by
  obtain ⟨f1, f2⟩ := H.far
  have hk : ∀ x ∈ A ++ (e.1, c) :: P, BN.In w2 h x.2 := by
    intro x hx
    rcases List.mem_append.1 hx with hx | hx
    · exact (H.kids x (by simp [hx])).fr R.fr (f2 x (by simp [hx]))
    · rcases List.mem_cons.1 hx with rfl | hx
      · exact R.inn
      · exact (H.kids x (by simp [hx])).fr R.fr (f2 x (by simp [hx]))
  have hlt := H.lt
  refine ⟨H.nd.fr R.fr f1, ?_, hk, ?_, ?_⟩
  · rw [H.map]
    simp only [List.map_append, List.map_cons, kidP, R.idq]
  · have hn : ((b :: flatI A) ++ (BN.ids h e.2 ++ flatI P)).Nodup := H.nodup
    exact nodup_swap hn R.nd R.sub hlt
  · intro i hi
    have hsz := R.fr.size
    rcases List.mem_cons.1 hi with rfl | hi
    · have := H.nd.lt; omega
    · rcases List.mem_append.1 hi with hi | hi
      · have := hlt i (by simp [hi]); omega
      · rcases List.mem_append.1 hi with hi | hi
        · rcases List.mem_append.1 hi with hi | hi
          · exact R.inn.lt i hi
          · cases u with
            | none => cases hi
            | some u => exact (R.inu u rfl).lt i hi
        · have := hlt i (by simp [hi]); omega
theorem ids_hand {h b : Nat} {A P : List (Int × BN h)} {e : Int × BN h} : BN.ids (h + 1) (b, A ++ e :: P) = b :: (flatI A ++ (BN.ids h e.2 ++ flatI P)) := by
  show b :: flatI (A ++ e :: P) = _
  rw [flatI_append, flatI_cons]
def erK {h : Nat} (e : Int × BN h) : Int × BE h := (e.1, BN.er h e.2)
/-- the part was not parted. -/
theorem inner_none {w w1 w2 : World} {h b : Nat} {A P : List (Int × BN h)} {e : Int × BN h} {rows : List Ent} {res : BE h × Option (BE h)} {c : BN h} (hw : Below w.heap.size w w1) (H : InH w1 h b A P e rows) (R : InsR w1 h e.2 res c none w2) :
    InsR w (h + 1) (b, A ++ e :: P) ((A.map erK ++ (e.1, res.1) :: P.map erK : List (Int × BE h)), none) (b, A ++ (e.1, c) :: P) none w2 := by
  obtain ⟨k1, k2, k3, k4, k5⟩ := H.kid R
  have hnd : (BN.ids (h + 1) (b, A ++ (e.1, c) :: P) ++ idsO (h + 1) none) = b :: (flatI A ++ ((BN.ids h c ++ idsO h none) ++ flatI P)) := by
    rw [ids_hand]; simp [idsO]
  refine ⟨?_, rfl, rfl, ⟨⟨rows, k1, k2⟩, k3⟩, (fun v hv => by cases hv), by rw [hnd]; exact k4, fun i hi => ?_, ?_⟩
  · show erN (BN.er h) (b, A ++ (e.1, c) :: P) = _
    unfold erN
    simp only [List.map_append, List.map_cons, R.er]
    rfl
  · rw [hnd] at hi
    rw [ids_hand]
    rcases List.mem_cons.1 hi with rfl | hi
    · exact .inl (List.mem_cons_self ..)
    · rcases List.mem_append.1 hi with hi | hi
      · exact .inl (by simp [hi])
      · rcases List.mem_append.1 hi with hi | hi
        · rcases R.sub i hi with q | q
          · exact .inl (by simp [q])
          · exact .inr (Nat.le_trans hw.size q)
        · exact .inl (by simp [hi])
  · rw [ids_hand]
    exact (Fr.of_below hw).comp (R.fr.mono (fun x hx => .inl (by simp [hx])))
/-- the part was parted, and what came off it stands in the node. -/
theorem inner_some {w w1 w2 wx w3 : World} {h b eb : Nat} {A P : List (Int × BN h)} {e : Int × BN h} {rows : List Ent} {res : BE h × Option (BE h)} {c u : BN h} {en : Ending} {k : Nat} {val : Int} {fk : Int} (hw : Below w.heap.size w w1) (H : InH w1 h b A P e rows) (R : InsR w1 h e.2 res c (some u) w2)
    (hx0 : Fr [eb] w2 wx) (heb : w.heap.size ≤ eb) (hebn : eb ∉ b :: (flatI A ++ ((BN.ids h c ++ BN.ids h u) ++ flatI P)))
    (hk : A.length = k) (ht : TailP wx b (insAt (k + 1) ⟨fk, val, false, some ⟨BN.id h u, 0, none⟩⟩ rows) en w3) :
    InsP w (h + 1) (b, A ++ e :: P) (split (A.map erK ++ (e.1, res.1) :: (fk, BN.er h u) :: P.map erK : List (Int × BE h))) en w3 := by
  obtain ⟨k1, k2, k3, k4, k5⟩ := H.kid R
  obtain ⟨L, hL⟩ : ∃ L, L = A ++ (e.1, c) :: (fk, u) :: P := ⟨_, rfl⟩
  have hrl : rows.length = A.length + 1 + P.length := by have := congrArg List.length k2; simp at this; omega
  have hmap : (insAt (k + 1) ⟨fk, val, false, some ⟨BN.id h u, 0, none⟩⟩ rows).map (fun r : Ent => (r.key, r.next)) = L.map (kidP (BN.id h)) := by
    rw [map_insAt, k2, hL]
    have : (A ++ (e.1, c) :: P) = (A ++ [(e.1, c)]) ++ P := by simp
    rw [this, List.map_append]
    have hl2 : k + 1 = ((A ++ [(e.1, c)]).map (kidP (BN.id h))).length := by simp [hk]
    unfold insAt
    rw [hl2, List.take_left', List.drop_left'] <;> simp [kidP]
  have hflat : flatI L = flatI A ++ ((BN.ids h c ++ idsO h (some u)) ++ flatI P) := by
    rw [hL, flatI_append, flatI_cons, flatI_cons]; simp [idsO]
  have hkids2 : ∀ x ∈ L, BN.In w2 h x.2 := by
    intro x hx
    rw [hL] at hx
    rcases List.mem_append.1 hx with hx | hx
    · exact k3 x (by simp [hx])
    · rcases List.mem_cons.1 hx with rfl | hx
      · exact k3 (e.1, c) (by simp)
      · rcases List.mem_cons.1 hx with rfl | hx
        · exact R.inu u rfl
        · exact k3 x (by simp [hx])
  rw [← hflat] at k4 k5
  have hebn2 : eb ∉ b :: flatI L := by rw [hflat]; exact hebn
  have hkids : ∀ x ∈ L, BN.In wx h x.2 := fun x hx => (hkids2 x hx).fr hx0 (fun i hi hm => by
    rw [List.mem_singleton.1 hm] at hi
    exact hebn2 (List.mem_cons_of_mem _ (List.mem_flatMap.2 ⟨x, hx, hi⟩)))
  replace k5 : ∀ i ∈ b :: flatI L, i < wx.heap.size := fun i hi => Nat.lt_of_lt_of_le (k5 i hi) hx0.size
  have hbn := (List.nodup_cons.1 k4).1
  have hkids3 : ∀ {w3 : World}, Fr [b] wx w3 → ∀ x ∈ L, BN.In w3 h x.2 := fun hf x hx => (hkids x hx).fr hf (fun i hi hm => by
    rw [List.mem_singleton.1 hm] at hi
    exact hbn (List.mem_flatMap.2 ⟨x, hx, hi⟩))
  have her : L.map (fun e => (e.1, BN.er h e.2)) = A.map erK ++ (e.1, res.1) :: (fk, BN.er h u) :: P.map erK := by
    rw [hL]; simp only [List.map_append, List.map_cons, R.er]; rfl
  have hsub : ∀ i ∈ b :: flatI L, i ∈ BN.ids (h + 1) (b, A ++ e :: P) ∨ w.heap.size ≤ i := by
    intro i hi
    rw [hflat] at hi
    rw [ids_hand]
    rcases List.mem_cons.1 hi with rfl | hi
    · exact .inl (List.mem_cons_self ..)
    · rcases List.mem_append.1 hi with hi | hi
      · exact .inl (by simp [hi])
      · rcases List.mem_append.1 hi with hi | hi
        · rcases R.sub i hi with q | q
          · exact .inl (by simp [q])
          · exact .inr (Nat.le_trans hw.size q)
        · exact .inl (by simp [hi])
  have hfr : ∀ {w3 : World}, Fr [b] wx w3 → Fr (BN.ids (h + 1) (b, A ++ e :: P)) w w3 := fun hf => by
    rw [ids_hand]
    exact (((Fr.of_below hw).comp (R.fr.mono (fun x hx => .inl (by simp [hx])))).trans hx0 (fun x hx => .inl hx) (fun x hx => .inr (by simp at hx; omega))).comp (hf.mono (fun x hx => .inl (by simp at hx; simp [hx])))
  have hsz : w.heap.size ≤ wx.heap.size := Nat.le_trans (Nat.le_trans hw.size R.fr.size) hx0.size
  have hll : (insAt (k + 1) ⟨fk, val, false, some ⟨BN.id h u, 0, none⟩⟩ rows).length = L.length := by have := congrArg List.length hmap; simpa using this
  rw [← her]
  rcases ht with ⟨hl, rfl, h1, h2⟩ | ⟨hl, nb, rfl, hnb, h1, h2, h3⟩
  · have hs : split (L.map fun e => (e.1, BN.er h e.2)) = (L.map (fun e => (e.1, BN.er h e.2)), none) := by unfold split; rw [if_pos (by rw [List.length_map]; omega)]
    rw [hs]
    refine ⟨(b, L), none, rfl, rfl, rfl, rfl, ⟨⟨_, h1, hmap⟩, hkids3 h2⟩, (fun v hv => by cases hv), ?_, ?_, hfr h2⟩
    · show ((b :: flatI L) ++ []).Nodup; rw [List.append_nil]; exact k4
    · intro i hi
      replace hi : i ∈ (b :: flatI L) ++ [] := hi
      rw [List.append_nil] at hi
      exact hsub i hi
  · have hs : split (L.map fun e => (e.1, BN.er h e.2)) = ((L.take 32).map (fun e => (e.1, BN.er h e.2)), some ((L.drop 32).map (fun e => (e.1, BN.er h e.2)))) := by
      unfold split; rw [if_neg (by rw [List.length_map]; omega), List.map_take, List.map_drop]
    rw [hs]
    have hperm : ((b :: flatI (L.take 32)) ++ (nb :: flatI (L.drop 32))).Perm (nb :: (b :: flatI L)) := by
      refine List.perm_middle.trans (List.Perm.cons nb ?_)
      rw [List.cons_append, ← flatI_append, List.take_append_drop]
    refine ⟨(b, L.take 32), some (nb, L.drop 32), rfl, rfl, rfl, rfl, ⟨⟨_, h1, by rw [List.map_take, List.map_take, hmap]⟩, fun x hx => hkids3 h3 x (List.mem_of_mem_take hx)⟩, (fun v hv => by
      cases hv
      exact ⟨⟨_, h2, by rw [List.map_drop, List.map_drop, hmap]⟩, fun x hx => hkids3 h3 x (List.mem_of_mem_drop hx)⟩), ?_, ?_, hfr h3⟩
    · show ((b :: flatI (L.take 32)) ++ (nb :: flatI (L.drop 32))).Nodup
      rw [hperm.nodup_iff, List.nodup_cons]
      exact ⟨fun hm => by have := k5 nb hm; omega, k4⟩
    · intro i hi
      replace hi : i ∈ (b :: flatI (L.take 32)) ++ (nb :: flatI (L.drop 32)) := hi
      rcases List.mem_cons.1 (hperm.mem_iff.1 hi) with rfl | hi
      · exact .inr (by omega)
      · exact hsub i hi
/-- an inner node's insertion, its part in hand. -/
theorem insN_hand {r : Int → Int} {h : Nat} {key val : Int} {vld : Bool} {A P : List (Int × BN h)} {e : Int × BN h} (hj : ji r key ((A ++ e :: P).map erK) = A.length) :
    insN r (fun t => insE r h t key val vld) (fstK h) key ((A ++ e :: P).map erK) =
      match insE r h (BN.er h e.2) key val vld with
      | (c, none) => (A.map erK ++ (e.1, c) :: P.map erK, none)
      | (c, some u) => split (A.map erK ++ (e.1, c) :: (fstK h u, u) :: P.map erK) := by
  unfold insN
  rw [hj]
  have hg : ((A ++ e :: P).map erK)[A.length]? = some (erK e) := by rw [List.getElem?_map, List.getElem?_append_right (Nat.le_refl _), Nat.sub_self]; rfl
  rw [hg]
  simp only [erK]
  have hs : ∀ c : BE h, ((A ++ e :: P).map erK).set A.length (e.1, c) = A.map erK ++ (e.1, c) :: P.map erK := by
    intro c
    rw [List.map_append, List.map_cons]
    have : A.length = (A.map (erK (h := h))).length := by simp
    rw [this]
    simp
  generalize insE r h (BN.er h e.2) key val vld = q
  obtain ⟨c, u⟩ := q
  cases u with
  | none => simp only; rw [← hs c]
  | some u =>
    simp only
    congr 1
    have h2 : (A.map erK ++ (e.1, c) :: P.map erK) = (A.map erK ++ [(e.1, c)]) ++ P.map erK := by simp
    have h3 : A.length + 1 = (A.map (erK (h := h)) ++ [(e.1, c)]).length := by simp
    rw [hs c, h2]
    unfold insAt
    rw [h3, List.take_left', List.drop_left'] <;> simp
/-- the first key of a node that is not empty. -/
theorem first_key {w : World} : ∀ {h : Nat} {t : BN h}, BN.In w h t → flat h (BN.er h t) ≠ [] → w.cell? ⟨BN.id h t, 1, none⟩ = some (.int .i64 (fstK h (BN.er h t)))
  | 0, (b, es), ⟨rows, h1, h2⟩, hne => by
    cases rows with
    | nil => exact absurd (show flat 0 (BN.er 0 (b, es)) = [] from h2.symm) hne
    | cons r rows =>
      have hes : es = (r.key, r.val, r.valid) :: rows.map (fun r => (r.key, r.val, r.valid)) := h2.symm
      subst hes
      exact (h1.row (i := 0) rfl).1
  | h + 1, (b, ks), ⟨⟨rows, h1, h2⟩, _⟩, hne => by
    cases rows with
    | nil =>
      cases ks with
      | nil => exact absurd rfl hne
      | cons k ks => simp at h2
    | cons r rows =>
      cases ks with
      | nil => simp at h2
      | cons k ks =>
        simp only [List.map_cons, List.cons.injEq, kidP, Prod.mk.injEq] at h2
        have := (h1.row (i := 0) rfl).1
        rw [h2.1.1] at this
        exact this
end Go.Proofs.Ytjbelfbfhcmgeaa.Kp
