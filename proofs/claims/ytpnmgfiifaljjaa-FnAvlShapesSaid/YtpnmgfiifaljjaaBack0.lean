/- nodes as data that are a tree with right heights; spec.Told, laws.shapeMay. -/
import Derived.Test.YtpnmgfiifaljjaaKid3
import Derived.Test.YtpnmgfiifaljjaaGrow1
namespace Go.Proofs.Ytpnmgfiifaljjaa.Kp
open Go.RowKit

/-- the levels at, and below, each node of a list. -/
def BT.talls : BT → List Int
  | .nil => []
  | .node l r => (max l.tall r.tall + 1) :: (l.talls ++ r.talls)
theorem BT.talls_len : ∀ t : BT, t.talls.length = t.size
  | .nil => rfl
  | .node l r => by simp [BT.talls, BT.size, talls_len l, talls_len r]; omega
theorem sub_at (has : List (List Bool)) : ∀ (t : BT) (p : Nat), Stands has p t → ∀ i, i < t.size → ∃ u : BT, Stands has (p + i) u ∧ u.is = true ∧ t.talls[i]? = some u.tall
  | .nil, _, _, i, hi => by simp [BT.size] at hi
  | .node l r, p, h, i, hi => by
    rcases i with _ | i
    · exact ⟨.node l r, h, rfl, rfl⟩
    · simp only [BT.size] at hi
      by_cases c : i < l.size
      · obtain ⟨u, h1, h2, h3⟩ := sub_at has l (p + 1) h.left i c
        exact ⟨u, by rw [show p + (i + 1) = p + 1 + i by omega]; exact h1, h2, by simp only [BT.talls, List.getElem?_cons_succ]; rw [List.getElem?_append_left (by rw [BT.talls_len]; exact c)]; exact h3⟩
      · obtain ⟨u, h1, h2, h3⟩ := sub_at has r (p + 1 + l.size) h.right (i - l.size) (by omega)
        exact ⟨u, by rw [show p + (i + 1) = p + 1 + l.size + (i - l.size) by omega]; exact h1, h2, by simp only [BT.talls, List.getElem?_cons_succ]; rw [List.getElem?_append_right (by rw [BT.talls_len]; omega), BT.talls_len]; exact h3⟩
/-- the tree that a list's nodes make. -/
def mkAT : BT → List BrD → AT
  | .nil, _ => .nil
  | .node _ _, [] => .nil
  | .node l r, a :: rest => .node 0 a.key (.int .i64 a.val) a.ht (mkAT l (rest.take l.size)) (mkAT r (rest.drop l.size))
theorem mk_isSome : ∀ (t : BT) (l : List BrD), hasB l = t.flags → (mkAT t l).ptr.isSome = t.is
  | .nil, _, _ => rfl
  | .node l r, [], h => by simp [hasB, has2, BT.flags] at h
  | .node l r, a :: rest, _ => rfl
theorem mk_parts {l r : BT} {a : BrD} {rest : List BrD} (h : hasB (a :: rest) = (BT.node l r).flags) : a.l = l.is ∧ a.r = r.is ∧ hasB (rest.take l.size) = l.flags ∧ hasB (rest.drop l.size) = r.flags := by
  simp only [hasB, has2, List.map_cons, BT.flags, List.cons.injEq, and_true] at h
  obtain ⟨⟨h1, h2⟩, h3⟩ := h
  refine ⟨h1, h2, ?_, ?_⟩
  · unfold hasB has2
    rw [List.map_take, h3, ← BT.flags_len, List.take_left]
  · unfold hasB has2
    rw [List.map_drop, h3, ← BT.flags_len, List.drop_left]
theorem mk_shape : ∀ (t : BT) (l : List BrD), hasB l = t.flags → (mkAT t l).shape = l
  | .nil, l, h => by
    have : l = [] := by
      have := congrArg List.length h
      rw [hasB_len] at this
      exact List.length_eq_zero_iff.1 (by simpa [BT.flags] using this)
    subst this; rfl
  | .node l r, [], h => by simp [hasB, has2, BT.flags] at h
  | .node l r, a :: rest, h => by
    obtain ⟨h1, h2, h3, h4⟩ := mk_parts h
    simp only [mkAT, AT.shape, valI]
    rw [mk_isSome _ _ h3, mk_isSome _ _ h4, mk_shape _ _ h3, mk_shape _ _ h4, ← h1, ← h2, List.take_append_drop]
theorem mk_er : ∀ (t : BT) (l : List BrD), (mkAT t l).er = mkAT t l
  | .nil, _ => rfl
  | .node _ _, [] => rfl
  | .node l r, a :: rest => by simp only [mkAT, AT.er, mk_er]
theorem mk_vs : ∀ (t : BT) (l : List BrD), (mkAT t l).Vs
  | .nil, _ => trivial
  | .node _ _, [] => trivial
  | .node l r, a :: rest => ⟨⟨_, rfl⟩, mk_vs _ _, mk_vs _ _⟩
/-- right heights. -/
def RtA : AT → Prop
  | .nil => True
  | .node _ _ _ h l r => h = htOf l r ∧ RtA l ∧ RtA r
theorem mk_rt : ∀ (t : BT) (l : List BrD), hasB l = t.flags → l.map BrD.ht = t.talls → RtA (mkAT t l) ∧ (mkAT t l).ht = t.tall
  | .nil, _, _, _ => ⟨trivial, rfl⟩
  | .node l r, [], h, _ => by simp [hasB, has2, BT.flags] at h
  | .node l r, a :: rest, h, ht => by
    obtain ⟨h1, h2, h3, h4⟩ := mk_parts h
    simp only [List.map_cons, BT.talls, List.cons.injEq] at ht
    obtain ⟨t1, t2⟩ := ht
    obtain ⟨a1, a2⟩ := mk_rt l (rest.take l.size) h3 (by rw [List.map_take, t2, ← BT.talls_len, List.take_left])
    obtain ⟨b1, b2⟩ := mk_rt r (rest.drop l.size) h4 (by rw [List.map_drop, t2, ← BT.talls_len, List.drop_left])
    refine ⟨⟨?_, a1, b1⟩, ?_⟩
    · rw [t1]; unfold htOf; rw [a2, b2]; omega
    · show a.ht = _
      rw [t1]; rfl
theorem RtA.bd : ∀ {t : AT}, RtA t → 0 ≤ t.ht ∧ t.ht ≤ t.ids.length
  | .nil, _ => by simp [AT.ht, AT.ids]
  | .node _ _ _ _ l r, h => by
    have := RtA.bd h.2.1
    have := RtA.bd h.2.2
    have e := h.1
    simp only [AT.ht, AT.ids, List.length_cons, List.length_append]
    rw [e]; unfold htOf; omega
/-- a tree with right heights that is turned, and turned back, is the same. -/
theorem back_R {b c : Nat} {k k2 h h2 : Int} {v v2 : Value} {l2 r2 r : AT} (hr : RtA (.node b k v h (.node c k2 v2 h2 l2 r2) r)) : rotL (rotR (.node b k v h (.node c k2 v2 h2 l2 r2) r)) = .node b k v h (.node c k2 v2 h2 l2 r2) r := by
  obtain ⟨e1, ⟨e2, _, _⟩, _⟩ := hr
  simp only [rotR, mkN, rotL]
  rw [e1, e2]
theorem back_L {b c : Nat} {k k2 h h2 : Int} {v v2 : Value} {l l2 r2 : AT} (hr : RtA (.node b k v h l (.node c k2 v2 h2 l2 r2))) : rotR (rotL (.node b k v h l (.node c k2 v2 h2 l2 r2))) = .node b k v h l (.node c k2 v2 h2 l2 r2) := by
  obtain ⟨e1, _, ⟨e2, _, _⟩⟩ := hr
  simp only [rotR, mkN, rotL]
  rw [e1, e2]
theorem drew_ex {w wr : World} (h : ∃ n, wr = w.drewN n) (m : Nat) : ∃ n, wr.drewN m = w.drewN n := by
  obtain ⟨n, rfl⟩ := h
  exact ⟨n + m, World.drewN_drewN w n m⟩
set_option maxRecDepth 100000 in
set_option maxHeartbeats 1600000 in
theorem told_calls (l : List BrD) (hn : l.length ≤ 5000000000) (t : BT) (hf : hasB l = t.flags) (lv kv : Value) (B : Nat) (w : World) (hl : SlC 5 brCells w B lv l) (hk : KT w B kv (hasB l)) :
    Calls Try.prog 32 #[lv, kv] w fun e w' => e = .returned (.bool (decide (l.map BrD.ht = t.talls))) ∧ ∃ n, w' = w.drewN n := by
  obtain ⟨A, c, rfl⟩ := hl.form
  obtain ⟨A2, c2, rfl⟩ := hk.form
  rw [hasB_len] at *
  have htl : t.talls.length = l.length := by rw [BT.talls_len, ← BT.flags_len, ← hf, hasB_len]
  have HS := Lib.hid hl
  have HK := Lib.hid hk
  have HT := Lib.hid htl
  have HF := Lib.hid hf
  clear hl hk htl hf
  go_enter Try.func32, Try.ntmps32
  go_wp2_with fail
  go_loopw [5] (fun i wr => ∃ (k : Nat), k ≤ l.length ∧ i = .int .i64 (k : Nat) ∧ Hid ((∃ n, wr = w.drewN n) ∧ (l.map BrD.ht).take k = t.talls.take k)) (fun i _ => l.length - (intOf i).toNat)
  case atStart => exact ⟨0, Nat.zero_le _, rfl, Lib.hid ⟨⟨0, rfl⟩, rfl⟩⟩
  case round =>
    obtain ⟨k, hk, rfl, HK2⟩ := hrel
    obtain ⟨n, en⟩ := HK2.out.1
    have EN := Lib.hid en
    clear en
    have hS : SlC 5 brCells wr B (.slice A l.length c) l := by rw [EN.out]; exact HS.out.below (Below.drewN w n)
    have hK : KT wr B (.slice A2 l.length c2) (hasB l) := by rw [EN.out]; exact HK.out.drewN n
    by_cases hlt : k < l.length
    · obtain ⟨b, off, a, rfl, g1, g3, g4, g5, z⟩ := hS.at_ hlt
      have q2 := z 2 _ rfl
      obtain ⟨u, u1, u2, u3⟩ := sub_at (hasB l) t 0 (by rw [HF.out]; exact Stands.all t) k (by rw [← BT.talls_len, HT.out]; exact hlt)
      rw [Nat.zero_add] at u1
      have eat : u.at_ k = (k : Int) := by unfold BT.at_; rw [u2]; rfl
      have HC := Lib.hid (fun m => (tall_calls (hasB l) (by rw [hasB_len]; exact hn) _ B u k (wr.drewN m) (hK.drewN m) u1).mono (fun _ _ h => (⟨h.1, m, h.2.symm⟩ : _ ∧ ∃ m, _ = wr.drewN m)))
      rw [eat] at HC
      have HA := Lib.hid g5
      have HU := Lib.hid u3
      have tl := u.tall_bd
      clear z g5 u1 u2 u3 eat hS hK
      have HZ := Lib.hid (show l[k]?.map BrD.ht = some a.ht by rw [HA.out]; rfl)
      generalize a.ht = ah at *
      generalize u.tall = ut at *
      by_cases hc : ah = ut
      · subst hc
        have hne : (ah != ah) = false := by simp
        have HTK : Hid ((l.map BrD.ht).take (k + 1) = t.talls.take (k + 1)) := Lib.hid (by
          obtain ⟨h1, h2⟩ := List.getElem?_eq_some_iff.1 HU.out
          have h3 : (l.map BrD.ht)[k]? = some ah := by rw [List.getElem?_map]; exact HZ.out
          obtain ⟨h4, h5⟩ := List.getElem?_eq_some_iff.1 h3
          rw [List.take_succ_eq_append_getElem h4, List.take_succ_eq_append_getElem h1, HK2.out.2, h2, h5])
        go_wp2_with fail
        go_quiet ((go_at_call 51; exact HC.out _))
        go_wp2_with fail
        refine ⟨⟨k + 1, by omega, by go_num, Lib.hid ⟨drew_ex ⟨n, EN.out⟩ _, HTK.out⟩⟩, by simp [intOf]; omega⟩
      · have hne : (ah != ut) = true := by simpa using hc
        have HTK : Hid (decide (l.map BrD.ht = t.talls) = false) := Lib.hid (decide_eq_false (fun e => by
          have h1 := HU.out
          rw [← e, List.getElem?_map, HZ.out] at h1
          cases h1
          exact hc rfl))
        clear hc
        go_wp2_with fail
        go_quiet ((go_at_call 51; exact HC.out _))
        go_wp2
        go_ret
        exact ⟨by rw [HTK.out]; rfl, drew_ex ⟨n, EN.out⟩ _⟩
    · have : k = l.length := by omega
      subst this
      go_wp2
      go_ret
      refine ⟨?_, n, EN.out⟩
      have h := HK2.out.2
      rw [List.take_of_length_le (by simp), List.take_of_length_le (by rw [HT.out]; omega)] at h
      rw [decide_eq_true h]; rfl
end Go.Proofs.Ytpnmgfiifaljjaa.Kp
