/- impl.btreeDo: a script on a B-tree; impl.BtreeRun. impl.btreeDo: the walk. -/
import Derived.Test.YtjbelfbfhcmgeaaBtG
import Derived.Test.YtjbelfbfhcmgeaaBtR
import Derived.Test.YtjbelfbfhcmgeaaActs
import Derived.Deep.Cut
namespace Go.Proofs.Ytjbelfbfhcmgeaa.Kp
open Go.RowKit Bt

theorem runB_snoc (r : Int → Int) (a : ActD) (l : List ActD) (s : Bt.BT) : runB r s (l ++ [a]) = ((stepB r a (runB r s l).1).1, (runB r s l).2 ++ [(stepB r a (runB r s l).1).2]) := by
  rw [runB_append]; rfl
/-- a node's block has a node's type. -/
theorem BN.In.type {w : World} : ∀ {h : Nat} {t : BN h} {i : Nat}, BN.In w h t → i ∈ BN.ids h t → ∃ cs, Blk w i cs 87
  | 0, _, i, ⟨rows, h1, _⟩, hi => by
    obtain ⟨cs, hb, _⟩ := h1.is
    rw [List.mem_singleton.1 hi]; exact ⟨cs, hb⟩
  | h + 1, _, i, ⟨⟨rows, h1, _⟩, h3⟩, hi => by
    rcases List.mem_cons.1 hi with rfl | hi
    · obtain ⟨cs, hb, _⟩ := h1.is; exact ⟨cs, hb⟩
    · obtain ⟨e, he, hi⟩ := List.mem_flatMap.1 hi
      exact BN.In.type (h3 e he) hi
theorem TB.type {w : World} {tb : Nat} {f : Value} {xs : List Int} {B : Nat} {s : BNT} {n : Int} (H : TB w tb f xs B s n) : ∀ i ∈ tb :: s.ids, ∃ cs T, Blk w i cs T ∧ T ≠ 3 ∧ T ≠ 50 := by
  intro i hi
  rcases List.mem_cons.1 hi with rfl | hi
  · exact ⟨_, _, H.blk, by decide, by decide⟩
  · obtain ⟨cs, hc⟩ := H.inn.type hi
    exact ⟨cs, _, hc, by decide, by decide⟩
/-- what holds of the tree and of what was told, at a round's head. -/
structure BInv (xs : List Int) (f : Value) (B tb : Nat) (l : List ActD) (w : World) (k : Nat) (sk : BNT) (n : Int) (cs : List Value) (v : Value) (wr : World) : Prop where
  own : wr.ownsRow B 50 4 v k cs
  tr : TR wr B (runB (rankOf xs) newB (l.take k)).2 cs
  at_ : TB wr tb f xs B sk n
  er : sk.er = (runB (rankOf xs) newB (l.take k)).1
  n1 : -(k : Int) ≤ n
  n2 : n ≤ k
  hh : sk.1 ≤ k
  fl : sk.er.flat.length ≤ k
  below : Below B w wr
theorem BInv.hB {xs : List Int} {f : Value} {B tb : Nat} {l : List ActD} {w : World} {k : Nat} {sk : BNT} {n : Int} {cs : List Value} {v : Value} {wr : World} (h : BInv xs f B tb l w k sk n cs v wr) : B ≤ wr.heap.size := Nat.le_trans h.at_.hB (Nat.le_of_lt h.at_.blk.lt)
theorem BInv.alloc {xs : List Int} {f : Value} {B tb : Nat} {l : List ActD} {w : World} {k : Nat} {sk : BNT} {n : Int} {cs : List Value} {v : Value} {wr : World} (h : BInv xs f B tb l w k sk n cs v wr) (o : Obj) : BInv xs f B tb l w k sk n cs v (wr.alloc o) :=
  ⟨h.own.alloc _, (KeepsInts.below (Below.refl _ _ |>.alloc (Nat.le_refl _) o)).tr h.tr, h.at_.below ((Below.refl _ wr).alloc (Nat.le_refl _) o), h.er, h.n1, h.n2, h.hh, h.fl, h.below.alloc h.hB _⟩
/-- between a step and the append of what it told: xb the block of what it told. -/
structure BMid (xs : List Int) (f : Value) (B tb : Nat) (l : List ActD) (w : World) (k : Nat) (sk : BNT) (n : Int) (cs : List Value) (v : Value) (a : ActD) (d : ToldD) (ka va : Option Addr) (kc vc xb : Nat) (wr : World) : Prop where
  own : wr.ownsRow B 50 4 v k cs
  tr : TR wr B (runB (rankOf xs) newB (l.take k)).2 cs
  at_ : TB wr tb f xs B sk n
  er : sk.er = (stepB (rankOf xs) a (runB (rankOf xs) newB (l.take k)).1).1
  told : (stepB (rankOf xs) a (runB (rankOf xs) newB (l.take k)).1).2 = d
  n1 : -((k + 1 : Nat) : Int) ≤ n
  n2 : n ≤ ((k + 1 : Nat) : Int)
  hh : sk.1 ≤ k + 1
  fl : sk.er.flat.length ≤ k + 1
  below : Below B w wr
  hk : wr.ownsRow B 3 1 (.slice ka d.keys.length kc) d.keys.length (d.keys.map i64v)
  hv : wr.ownsRow B 3 1 (.slice va d.vals.length vc) d.vals.length (d.vals.map i64v)
  blk : Blk wr xb #[.int .i64 d.val, .bool d.ok, .slice ka d.keys.length kc, .slice va d.vals.length vc] 50
theorem BMid.cells {xs : List Int} {f : Value} {B tb : Nat} {l : List ActD} {w : World} {k : Nat} {sk : BNT} {n : Int} {cs : List Value} {v : Value} {a : ActD} {d : ToldD} {ka va : Option Addr} {kc vc xb : Nat} {wr : World} (h : BMid xs f B tb l w k sk n cs v a d ka va kc vc xb wr) :
    wr.cell? ⟨xb, 0, none⟩ = some (.int .i64 d.val) ∧ wr.cell? ⟨xb, 1, none⟩ = some (.bool d.ok) ∧ wr.cell? ⟨xb, 2, none⟩ = some (.slice ka d.keys.length kc) ∧ wr.cell? ⟨xb, 3, none⟩ = some (.slice va d.vals.length vc) ∧ xb < wr.heap.size := ⟨h.blk.cell 0, h.blk.cell 1, h.blk.cell 2, h.blk.cell 3, h.blk.lt⟩
theorem own_type {wr : World} {B s n : Nat} {e : TypeId} {v : Value} {cs : List Value} (ho : wr.ownsRow B e s v n cs) : ∀ b, v.ownBlock = some b → ∃ cur, Blk wr b cur e := fun b hb => by
  rcases ho.2 with ⟨e1, _⟩ | ⟨g, cap, cur, e1, _, hc, _⟩
  · rw [e1] at hb; cases hb
  · rw [e1] at hb; cases hb; exact ⟨cur, hc⟩
theorem BMid.next {xs : List Int} {f : Value} {B tb : Nat} {l : List ActD} {w : World} {k : Nat} {sk : BNT} {n : Int} {cs : List Value} {v : Value} {a : ActD} {d : ToldD} {ka va : Option Addr} {kc vc xb : Nat} {wr w2 : World} {v' : Value} {o : Obj} (h : BMid xs f B tb l w k sk n cs v a d ka va kc vc xb wr) (ha : l[k]? = some a)
    (ho : w2.ownsRow B 50 4 v' (k + 1) (cs ++ [.int .i64 d.val, .bool d.ok, .slice ka d.keys.length kc, .slice va d.vals.length vc])) (hg : (wr.alloc o).grownBy w2 v.ownBlock) :
    BInv xs f B tb l w (k + 1) sk n (cs ++ [.int .i64 d.val, .bool d.ok, .slice ka d.keys.length kc, .slice va d.vals.length vc]) v' w2 := by
  have hkl : k < l.length := (List.getElem?_eq_some_iff.1 ha).1
  have e : l.take (k + 1) = l.take k ++ [a] := by rw [List.take_succ_eq_append_getElem hkl]; congr; exact (List.getElem?_eq_some_iff.1 ha).2
  have hB : B ≤ wr.heap.size := Nat.le_trans h.at_.hB (Nat.le_of_lt h.at_.blk.lt)
  have K : KeepsInts wr w2 := (KeepsInts.below (Below.refl _ _ |>.alloc (Nat.le_refl _) o)).trans (KeepsInts.grown hg (fun b hb => by
    obtain ⟨cur, hc⟩ := own_type h.own b hb
    exact ⟨cur, _, hc.alloc o, by decide⟩))
  have hne : ∀ i ∈ tb :: sk.ids, some i ≠ v.ownBlock := fun i hi e => by
    obtain ⟨cs, T, h1, _, h2⟩ := h.at_.type i hi
    obtain ⟨cur, hc⟩ := own_type h.own i e.symm
    exact h2 (Blk.ty h1 hc)
  have hF : ∀ i, i < wr.heap.size → some i ≠ v.ownBlock → w2.heap[i]? = wr.heap[i]? := fun i hi hn => by
    rw [hg.block i (by simp; omega) hn, Below.heap_alloc _ _ _ hi]
  have hbl : Below B w w2 := by
    have hb := h.below.alloc hB o
    exact hb.grown hg (by simp; omega) (fun g hg => (h.own.lt g hg).1)
  have r := runB_snoc (rankOf xs) a (l.take k) newB
  have hfr : Fr (match v.ownBlock with | none => [] | some g => [g]) wr w2 := ⟨hg.os, hg.tape, hg.output, Nat.le_trans (by simp) hg.size, fun i hi hn => hF i hi (fun e => hn (by rw [← e]; simp))⟩
  refine ⟨ho, ?_, h.at_.fr hfr (fun hm => ?_) (fun i hi hm => ?_) (fun i hi => ?_), ?_, h.n1, h.n2, h.hh, h.fl, hbl⟩
  · rw [e, r, h.told]
    exact TR.snoc (K.own h.hk) (K.own h.hv) (K.tr h.tr)
  · cases hx : v.ownBlock with
    | none => rw [hx] at hm; cases hm
    | some g => rw [hx] at hm; simp at hm; exact hne tb (List.mem_cons_self ..) (by rw [hx, hm])
  · cases hx : v.ownBlock with
    | none => rw [hx] at hm; cases hm
    | some g => rw [hx] at hm; simp at hm; exact hne i (List.mem_cons_of_mem _ hi) (by rw [hx, hm])
  · cases hx : v.ownBlock with
    | none => rw [hx] at hi; cases hi
    | some g => rw [hx] at hi; simp at hi; rw [hi]; exact (h.own.lt g hx).1
  · rw [e, r]; exact h.er
/-- a step that only reads leaves the tree, and fills what it tells. -/
theorem BMid.of_fr {xs : List Int} {f : Value} {B tb : Nat} {l : List ActD} {w : World} {k : Nat} {sk : BNT} {n : Int} {cs : List Value} {v : Value} {a : ActD} {d : ToldD} {ka va : Option Addr} {kc vc xb : Nat} {wr w2 : World} {cx : Array Value} (h : BInv xs f B tb l w k sk n cs v wr) (h1 : (stepB (rankOf xs) a sk.er).1 = sk.er) (h2 : (stepB (rankOf xs) a sk.er).2 = d)
    (hx : Blk wr xb cx 50) (hf : Fr [xb] wr w2) (hv0 : v.ownBlock ≠ some xb) (hxB : B ≤ xb)
    (hk : w2.ownsRow B 3 1 (.slice ka d.keys.length kc) d.keys.length (d.keys.map i64v)) (hv : w2.ownsRow B 3 1 (.slice va d.vals.length vc) d.vals.length (d.vals.map i64v))
    (hb : Blk w2 xb #[.int .i64 d.val, .bool d.ok, .slice ka d.keys.length kc, .slice va d.vals.length vc] 50) : BMid xs f B tb l w k sk n cs v a d ka va kc vc xb w2 := by
  have K : KeepsInts wr w2 := KeepsInts.fr hf (fun b hb => by rw [List.mem_singleton.1 hb]; exact ⟨_, _, hx, by decide⟩)
  have hne : ∀ i ∈ tb :: sk.ids, i ∉ [xb] := fun i hi e => by
    obtain ⟨cs, T, g1, _, g2⟩ := h.at_.type i hi
    rw [List.mem_singleton.1 e] at g1
    exact g2 (Blk.ty g1 hx)
  have hx1 : ∀ i ∈ [xb], B ≤ i := fun i hi => by rw [List.mem_singleton.1 hi]; exact hxB
  refine ⟨?_, K.tr h.tr, h.at_.fr hf (hne tb (List.mem_cons_self ..)) (fun i hi => hne i (List.mem_cons_of_mem _ hi)) hx1, ?_, ?_, by have := h.n1; omega, by have := h.n2; omega, by have := h.hh; omega, by have := h.fl; omega, h.below.trans (hf.below hx1 h.hB), hk, hv, hb⟩
  · refine ⟨h.own.1, h.own.2.imp id ?_⟩
    rintro ⟨g, cap, cur, e1, e2, e3, e4⟩
    exact ⟨g, cap, cur, e1, e2, (show Blk w2 g cur _ from Blk.fr (show Blk wr g cur _ from e3) hf (fun e => hv0 (by rw [e1, ← List.mem_singleton.1 e]; rfl))), e4⟩
  · rw [← h.er, h1]
  · rw [← h.er, h2]
/-- a step that changes the tree. -/
theorem BMid.of_write {xs : List Int} {f : Value} {B tb : Nat} {l : List ActD} {w : World} {k : Nat} {sk : BNT} {n n' : Int} {cs : List Value} {v : Value} {a : ActD} {xb : Nat} {wr w2 : World} (h : BInv xs f B tb l w k sk n cs v wr) (h2 : (stepB (rankOf xs) a sk.er).2 = .none)
    (hb : Blk wr xb #[.int .i64 0, .bool false, .slice none 0 0, .slice none 0 0] 50) (hs : StepB wr tb f xs B sk (stepB (rankOf xs) a sk.er).1 n' w2) (hn : n' = n + 1 ∨ n' = n ∨ n' = n - 1) :
    ∃ s2, BMid xs f B tb l w k s2 n' cs v a .none none none 0 0 xb w2 := by
  obtain ⟨s2, g1, g2, g3, hf⟩ := hs
  have K : KeepsInts wr w2 := KeepsInts.fr hf (fun b hb => by obtain ⟨cs, T, h1, h2, _⟩ := h.at_.type b hb; exact ⟨cs, T, h1, h2⟩)
  have hne : ∀ b cs', Blk wr b cs' 50 → b ∉ tb :: sk.ids := fun b cs' hb hx => by
    obtain ⟨cs, T, h1, _, h2⟩ := h.at_.type b hx
    exact h2 (Blk.ty h1 hb)
  have hge : ∀ x ∈ tb :: sk.ids, B ≤ x := fun x hx => (List.mem_cons.1 hx).elim (fun e => e ▸ h.at_.hB) (h.at_.hS x)
  obtain ⟨u1, u2⟩ := ups_flat_len (r := rankOf xs) a h.at_.wf
  rw [← g2] at u1 u2
  have u2' : s2.1 ≤ sk.1 + 1 := u2
  refine ⟨s2, ?_, K.tr h.tr, g1, ?_, ?_, by have := h.n1; omega, by have := h.n2; omega, by have := h.hh; omega, by have := h.fl; omega, h.below.trans (hf.below hge h.hB), World.ownsRow_nil _ _ _ _, World.ownsRow_nil _ _ _ _, hb.fr hf (hne _ _ hb)⟩
  · refine ⟨h.own.1, h.own.2.imp id ?_⟩
    rintro ⟨g, cap, cur, e1, e2, e3, e4⟩
    exact ⟨g, cap, cur, e1, e2, (show Blk w2 g cur _ from Blk.fr (show Blk wr g cur _ from e3) hf (hne _ _ e3)), e4⟩
  · rw [← h.er]; exact g2
  · rw [← h.er, h2]
end Go.Proofs.Ytjbelfbfhcmgeaa.Kp
namespace Go.Proofs.Ytjbelfbfhcmgeaa.Kp
open Go.RowKit Bt

theorem or5 {a b c d e R : Prop} (h : a ∨ b ∨ c ∨ d ∨ e) (h1 : a → R) (h2 : b → R) (h3 : c → R) (h4 : d → R) (h5 : e → R) : R := by
  rcases h with h | h | h | h | h
  · exact h1 h
  · exact h2 h
  · exact h3 h
  · exact h4 h
  · exact h5 h
theorem step0 {r : Int → Int} {key val : Int} {s : Bt.BT} : stepB r ⟨0, key, val⟩ s = (putB r key val s, .none) := rfl
theorem step1 {r : Int → Int} {key val : Int} {s : Bt.BT} : stepB r ⟨1, key, val⟩ s = (remB r key s, .none) := rfl
theorem step2 {r : Int → Int} {key val : Int} {s : Bt.BT} : stepB r ⟨2, key, val⟩ s = (s, ⟨(getE r s.1 s.2 key).1, (getE r s.1 s.2 key).2, [], []⟩) := rfl
theorem step4 {r : Int → Int} {key val : Int} {s : Bt.BT} : stepB r ⟨4, key, val⟩ s = (s, ⟨0, false, lk s.flat, lv s.flat⟩) := rfl
set_option maxRecDepth 100000 in
set_option maxHeartbeats 3200000 in
theorem btreeDo_calls (xs : List Int) (f av : Value) (B tb : Nat) (l : List ActD) (s : BNT) (w : World) (ha : SlA w B av l) (hl : l.length ≤ 7000000000) (H : TB w tb f xs B s 0) (hs : s.er = newB) :
    Calls Try.prog 27 #[.pointer (some ⟨tb, 0, none⟩), av] w fun e w' => ∃ v' cs s' n, e = .returned v' ∧ w'.ownsRow B 50 4 v' (runB (rankOf xs) newB l).2.length cs ∧ TR w' B (runB (rankOf xs) newB l).2 cs ∧ TB w' tb f xs B s' n ∧ s'.er = (runB (rankOf xs) newB l).1 ∧ s'.1 ≤ l.length ∧ s'.er.flat.length ≤ l.length ∧ Below B w w' := by
  obtain ⟨i0, hi0, hz0, hz1, hz2⟩ := info_parts Try.infoTold
  have hh0 : s.1 ≤ 0 := by have : s.er.1 = 0 := by rw [hs]; rfl
                           exact Nat.le_of_eq this
  have hf0 : s.er.flat.length ≤ 0 := by rw [hs]; exact Nat.le_refl 0
  have HInv0 : BInv xs f B tb l w 0 s 0 [] (.slice none 0 0) w := ⟨World.ownsRow_nil _ _ _ _, rfl, H, hs, by omega, by omega, hh0, hf0, Below.refl _ _⟩
  obtain ⟨A, cap, rfl⟩ := ha.form
  have hcap : l.length ≤ 7000000000 := hl
  have HI := Lib.hid HInv0
  have hB2 := HInv0.hB
  clear HInv0 H hs hh0 hf0
  go_enter Try.func27, Try.ntmps27
  go_wp2_with fail
  go_loopw [5, 11] (fun v i wr => ∃ k sk n cs, k ≤ l.length ∧ i = .int .i64 (k : Nat) ∧ Hid (BInv xs f B tb l w k sk n cs v wr)) (fun _ i _ => l.length - (intOf i).toNat)
  case atStart => exact ⟨0, s, 0, [], Nat.zero_le _, rfl, HI⟩
  case round =>
    obtain ⟨k, sk, n, cs, hk, rfl, HK⟩ := hrel
    by_cases hlt : k < l.length
    · obtain ⟨b, off, a, rfl, h1, h3, h4, ha5, z0, z1, z2⟩ := ha.at_ hlt
      obtain ⟨act, key, val⟩ := a
      have q0 := (HK.out.below.cell (p := ⟨b, off + k * 3, none⟩) h3).trans z0
      have q1 := (HK.out.below.cell (p := ⟨b, off + k * 3 + 1, none⟩) h3).trans z1
      have q2 := (HK.out.below.cell (p := ⟨b, off + k * 3 + 2, none⟩) h3).trans z2
      simp only at q0 q1 q2
      have blt : b < wr.heap.size := Nat.lt_of_lt_of_le h4 HK.out.below.size
      have HA := Lib.hid ha5
      clear ha5 z0 z1 z2
      have HW := Lib.hid ((HK.out.alloc (Obj.cells #[.int .i64 act, .int .i64 key, .int .i64 val] 52)).alloc (Obj.cells #[.int .i64 0, .bool false, .slice none 0 0, .slice none 0 0] 50))
      have HX := Lib.hid (Blk.new (wr.alloc (Obj.cells #[.int .i64 act, .int .i64 key, .int .i64 val] 52)) #[.int .i64 0, .bool false, .slice none 0 0, .slice none 0 0] 50)
      have hsz : (wr.alloc (Obj.cells #[.int .i64 act, .int .i64 key, .int .i64 val] 52)).heap.size = wr.heap.size + 1 := by simp
      rw [hsz] at HX
      clear hsz
      have HV := Lib.hid (show u5.ownBlock ≠ some (wr.heap.size + 1) ∧ B ≤ wr.heap.size + 1 from ⟨fun e => by have := (HK.out.own.lt _ e).2; omega, by have := HK.out.below.size; omega⟩)
      have hkb : sk.1 ≤ 7000000000 ∧ (-7000000000 ≤ n ∧ n ≤ 7000000000) ∧ sk.er.flat.length ≤ 7000000000 := by
        have := HK.out.hh; have := HK.out.n1; have := HK.out.n2; have := HK.out.fl
        omega
      have HKB := Lib.hid hkb
      clear hkb
      have dd : act = 0 ∨ act = 1 ∨ act = 2 ∨ act = 4 ∨ ((act == 0) = false ∧ (act == 1) = false ∧ (act == 2) = false ∧ (act == 4) = false) := by
        simp only [beq_eq_false_iff_ne]; omega
      refine or5 dd ?k0 ?k1 ?k2 ?k3 ?k4 <;> (clear dd; intro dd)
      case' k0 =>
        subst dd
        go_wp2_with fail
        generalize hW1 : (wr.alloc (Obj.cells #[.int .i64 0, .int .i64 key, .int .i64 val] 52)).alloc (Obj.cells #[.int .i64 0, .bool false, .slice none 0 0, .slice none 0 0] 50) = W1 at *
        have h := HW.out
        refine (bput_calls xs tb f B sk n key val W1 h.at_ (by have := HKB.out; omega) (by have := HKB.out; omega)).mono ?_
        rintro e w2 ⟨rfl, g1⟩
        obtain ⟨s2, hM⟩ := BMid.of_write (a := ⟨0, key, val⟩) h (by rw [step0]) HX.out (by rw [step0]; exact g1) (.inl rfl)
        have HM := Lib.hid hM
        clear g1 hM
        go_upto_region 15 with (fail)
        have HA' := HA
        clear h HA
        have HA := HA'
        clear HA' HW HX HK HV HKB q0 q1 q2 hW1 blt
        obtain ⟨c0, c1, c2, c3, cl⟩ := HM.out.cells
      case' k1 =>
        subst dd
        go_wp2_with fail
        generalize hW1 : (wr.alloc (Obj.cells #[.int .i64 1, .int .i64 key, .int .i64 val] 52)).alloc (Obj.cells #[.int .i64 0, .bool false, .slice none 0 0, .slice none 0 0] 50) = W1 at *
        have h := HW.out
        refine (brem_calls xs tb f B sk n key W1 h.at_ (by have := HKB.out; omega) (by have := HKB.out; omega)).mono ?_
        rintro e w2 ⟨rfl, n', hn', g1⟩
        obtain ⟨s2, hM⟩ := BMid.of_write (a := ⟨1, key, val⟩) h (by rw [step1]) HX.out (by rw [step1]; exact g1) (.inr hn')
        have HM := Lib.hid hM
        clear g1 hM hn'
        go_upto_region 15 with (fail)
        have HA' := HA
        clear h HA
        have HA := HA'
        clear HA' HW HX HK HV HKB q0 q1 q2 hW1 blt
        obtain ⟨c0, c1, c2, c3, cl⟩ := HM.out.cells
      case' k2 =>
        subst dd
        go_wp2_with fail
        generalize hW1 : (wr.alloc (Obj.cells #[.int .i64 2, .int .i64 key, .int .i64 val] 52)).alloc (Obj.cells #[.int .i64 0, .bool false, .slice none 0 0, .slice none 0 0] 50) = W1 at *
        have h := HW.out
        refine (bget_calls xs tb f B sk n key W1 h.at_ (by have := HKB.out; omega)).mono ?_
        rintro e w1 ⟨rfl, hb1⟩
        have X1 := HX.out.below hb1 HX.out.lt
        have y0 := X1.cell 0
        have y1 := X1.cell 1
        have yf := X1.frozen
        simp only [List.getElem?_toArray, List.getElem?_cons_succ, List.getElem?_cons_zero] at y0 y1
        obtain ⟨q, hq⟩ : ∃ q, q = getE (rankOf xs) sk.1 sk.er.2 key := ⟨_, rfl⟩
        rw [← hq]
        have B2 : Blk ((w1.setCell ⟨wr.heap.size + 1, 0, none⟩ (.int .i64 q.1)).setCell ⟨wr.heap.size + 1, 1, none⟩ (.bool q.2)) (wr.heap.size + 1) #[.int .i64 q.1, .bool q.2, .slice none 0 0, .slice none 0 0] 50 := (X1.set 0 _).set 1 _
        have F2 : Fr [wr.heap.size + 1] W1 ((w1.setCell ⟨wr.heap.size + 1, 0, none⟩ (.int .i64 q.1)).setCell ⟨wr.heap.size + 1, 1, none⟩ (.bool q.2)) := (Fr.of_below hb1).comp ((Fr.setCell _ _ 0 _ (by simp)).comp (Fr.setCell _ _ 1 _ (by simp)))
        have HM := Lib.hid (BMid.of_fr (a := ⟨2, key, val⟩) (d := ⟨q.1, q.2, [], []⟩) h rfl (by rw [hq]; rfl) HX.out F2 HV.out.1 HV.out.2 (World.ownsRow_nil _ _ _ _) (World.ownsRow_nil _ _ _ _) B2)
        clear B2 F2 hq hb1 X1
        obtain ⟨qv, qb⟩ := q
        go_upto_region 15 with (fail)
        generalize ((w1.setCell ⟨wr.heap.size + 1, 0, none⟩ (.int .i64 qv)).setCell ⟨wr.heap.size + 1, 1, none⟩ (.bool qb)) = w2 at *
        clear y0 y1 yf
        have HA' := HA
        clear h HA
        have HA := HA'
        clear HA' HW HX HK HV HKB q0 q1 q2 hW1 blt
        obtain ⟨c0, c1, c2, c3, cl⟩ := HM.out.cells
      case' k3 =>
        subst dd
        go_wp2_with fail
        generalize hW1 : (wr.alloc (Obj.cells #[.int .i64 4, .int .i64 key, .int .i64 val] 52)).alloc (Obj.cells #[.int .i64 0, .bool false, .slice none 0 0, .slice none 0 0] 50) = W1 at *
        have h := HW.out
        have tx : TellX W1 W1.heap.size (wr.heap.size + 1) 0 false [] [] := ⟨none, 0, none, 0, HX.out, World.ownsRow_nil _ _ _ _, World.ownsRow_nil _ _ _ _, HX.out.lt, Nat.le_refl _, .inl rfl⟩
        refine (beach_calls xs tb f B W1.heap.size (wr.heap.size + 1) 0 false sk n [] [] W1 h.at_ (by have := HKB.out; omega) (fun x hx => ⟨h.at_.inn.lt x hx, fun e => by
            rw [List.mem_singleton.1 e] at hx
            obtain ⟨cs, hc⟩ := h.at_.inn.type hx
            exact absurd (Blk.ty hc HX.out) (by decide)⟩) tx (by have := HKB.out; simp; omega) (by have := HKB.out; simp; omega)).mono ?_
        rintro e w2 ⟨rfl, ⟨ka, kc, va, vc, g1⟩, g2⟩
        have hBW := h.hB
        have HM := Lib.hid (BMid.of_fr (a := ⟨4, key, val⟩) (d := ⟨0, false, lk sk.er.flat, lv sk.er.flat⟩) h rfl rfl HX.out ⟨g2.os, g2.tape, g2.output, g2.size, g2.block⟩ HV.out.1 HV.out.2 (own_weaken g1.keys hBW) (own_weaken g1.vals hBW) g1.blk)
        clear g1 g2 tx
        go_upto_region 15 with (fail)
        have HA' := HA
        clear h HA
        have HA := HA'
        clear HA' HW HX HK HV HKB q0 q1 q2 hW1 blt
        obtain ⟨c0, c1, c2, c3, cl⟩ := HM.out.cells
      case' k4 =>
        obtain ⟨e0, e1, e2, e4⟩ := dd
        go_upto_region 15 with (fail)
        have h := HW.out
        have HM := Lib.hid (BMid.of_fr (a := ⟨act, key, val⟩) (d := .none) h (by unfold stepB; simp_all) (by unfold stepB; simp_all) HX.out (Fr.refl _ _) HV.out.1 HV.out.2 (World.ownsRow_nil _ _ _ _) (World.ownsRow_nil _ _ _ _) HX.out)
        clear e0 e1 e2 e4
        generalize hW1 : (wr.alloc (Obj.cells #[.int .i64 act, .int .i64 key, .int .i64 val] 52)).alloc (Obj.cells #[.int .i64 0, .bool false, .slice none 0 0, .slice none 0 0] 50) = w2 at *
        have HA' := HA
        clear h HA
        have HA := HA'
        clear HA' HW HX HK HV HKB q0 q1 q2 hW1 blt
        obtain ⟨c0, c1, c2, c3, cl⟩ := HM.out.cells
      all_goals
        go_wp2_with (at_builtin; refine wpList_append_own _ rfl (.tmp 47) (.tmp 49) 25 rfl B 50 i0 _ 4 64 Try.underlying25 hi0 hz0 hz1 hz2 rfl (by omega) u5 k cs rfl (HM.out.own.alloc _) ⟨w2.heap.size, 0, none⟩ 1 1 _ rfl rfl (news_blk (Blk.new w2 _ _)) (by simp [Value.oneCell']) (by unfold maxLen; omega) (by omega) (by have := HM.out.below.size; simp; omega) ?_; intro v' w3 hown' hgrow _)
        exact ⟨⟨k + 1, _, _, _, by omega, by go_num, Lib.hid (HM.out.next HA.out hown' hgrow)⟩, by simp [intOf]; omega⟩
    · have : k = l.length := by omega
      subst this
      go_wp2_with fail
      go_ret
      have h := HK.out
      exact ⟨u5, cs, sk, n, rfl, by rw [runB_len]; exact h.own, by have := h.tr; rwa [List.take_length] at this, h.at_, by have := h.er; rwa [List.take_length] at this, h.hh, h.fl, h.below⟩
theorem btreeRun_calls (xs : List Int) (ov av : Value) (l : List ActD) (w : World) (ho : SlR w w.heap.size ov (xs.map i64v)) (ha : SlA w w.heap.size av l) (hl : l.length ≤ 7000000000) :
    Calls Try.prog 9 #[ov, av] w fun e w' => ∃ v', e = .returned v' ∧ Tolds w' w.heap.size v' (runB (rankOf xs) newB l).2 ∧ Below w.heap.size w w' := by
  have hs2 := ha.form
  obtain ⟨A, c, rfl⟩ := ho.form
  rw [List.length_map] at *
  obtain ⟨A2, c2, rfl⟩ := hs2
  have HO := Lib.hid ho
  have HA := Lib.hid ha
  clear ho ha
  go_enter Try.func9, Try.ntmps9
  go_wp2_with fail
  refine (lessMake_calls xs _ w HO.out).mono ?_
  rintro e w1 ⟨f, rfl, hf, hb1⟩
  obtain ⟨g, hg⟩ : ∃ fn fi ca, f = .func fn fi ca := by obtain ⟨_, _, rfl, _⟩ := hf; exact ⟨_, _, _, rfl⟩
  obtain ⟨fi, ca, rfl⟩ := hg
  have HF := Lib.hid hf
  clear hf
  go_wp2_with fail
  refine (bnew_calls xs _ w1.heap.size w1 HF.out (Nat.le_refl _)).mono ?_
  rintro e w2 ⟨tb, s, rfl, H, hs, hb2⟩
  have HT := Lib.hid (And.intro H hs)
  clear H hs
  go_wp2_with fail
  have hle : w.heap.size ≤ w1.heap.size := hb1.size
  refine (btreeDo_calls xs _ _ w1.heap.size tb l s w2 (((HA.out.below hb1).mono hle).below hb2) hl HT.out.1 HT.out.2).mono ?_
  rintro e w3 ⟨v', cs, s', n', rfl, g1, g2, _, _, _, _, g3⟩
  go_wp2
  go_ret
  exact ⟨v', rfl, ⟨cs, own_weaken g1 hle, g2.weaken hle⟩, (hb1.trans (hb2.mono hle)).trans (g3.mono hle)⟩
end Go.Proofs.Ytjbelfbfhcmgeaa.Kp
