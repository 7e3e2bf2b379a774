/- rows of one's own beside trees: frames by kind of block. -/
import Derived.Test.YtomclflknjkhfaaItv5
import Derived.Test.YtomclflknjkhfaaRow
import Derived.Test.YtomclflknjkhfaaFrB
import Derived.Deep.LoopGhost
namespace Go.Proofs.Ytomclflknjkhfaa
open Go.RowKit ItP

theorem own_form {w : World} {B : Nat} {e : TypeId} {sz n : Nat} {v : Value} {xs : List Value} (h : w.ownsRow B e sz v n xs) : ∃ A c, v = .slice A n c := by
  rcases h.2 with ⟨e, h0⟩ | ⟨g, cap, cur, e, _⟩
  · subst h0; exact ⟨_, _, e⟩
  · exact ⟨_, _, e⟩
theorem own_weaken {w : World} {B B' : Nat} {e : TypeId} {s n : Nat} {v : Value} {xs : List Value} (h : w.ownsRow B' e s v n xs) (hB : B ≤ B') : w.ownsRow B e s v n xs := by
  refine ⟨h.1, h.2.imp id ?_⟩
  rintro ⟨g, cap, cur, e1, e2, e3⟩
  exact ⟨g, cap, cur, e1, Nat.le_trans hB e2, e3⟩
theorem Blk.ty {w : World} {b : Nat} {cs cs' : Array Value} {T T' : TypeId} (h : Blk w b cs T) (h' : Blk w b cs' T') : T = T' := by
  unfold Blk at h h'; rw [h] at h'; simp at h'; exact h'.2
theorem news_blk {W : World} {b : Nat} {cs : List Value} {T : TypeId} (h : Blk W b cs.toArray T) : ∀ j u, cs[j]? = some u → W.cell? ((⟨b, 0, none⟩ : Addr).add j) = some u := by
  intro j u hj
  have e : ((⟨b, 0, none⟩ : Addr).add j) = ⟨b, j, none⟩ := by unfold Addr.add; split <;> simp_all
  rw [e, h.cell j]
  simpa using hj
theorem own_ty {w : World} {B sz n : Nat} {T : TypeId} {v : Value} {xs : List Value} (h : w.ownsRow B T sz v n xs) {g : Nat} (hg : v.ownBlock = some g) : ∃ cur, Blk w g cur T ∧ B ≤ g := by
  rcases h.2 with ⟨e1, _⟩ | ⟨g', cap, cur, e1, h1, hc, _⟩
  · rw [e1] at hg; cases hg
  · rw [e1] at hg; cases hg
    exact ⟨cur, hc, h1⟩
theorem own_fr {w w' : World} {B sz n : Nat} {T : TypeId} {v : Value} {xs : List Value} (h : w.ownsRow B T sz v n xs) {S : List Nat} (hf : Fr S w w') (hn : ∀ b ∈ S, v.ownBlock ≠ some b) : w'.ownsRow B T sz v n xs := by
  refine ⟨h.1, h.2.imp id ?_⟩
  rintro ⟨g, cap, cur, e1, e2, e3, e4⟩
  exact ⟨g, cap, cur, e1, e2, (show Blk w' g cur _ from Blk.fr (show Blk w g cur _ from e3) hf (fun e => hn g e (by rw [e1]; rfl))), e4⟩
/-- below B nothing has changed; above it blocks of kind T alone. -/
structure KB (B : Nat) (T : TypeId) (w w' : World) : Prop where
  below : Below B w w'
  keep : ∀ (g : Nat) (cur : Array Value) (T' : TypeId), Blk w g cur T' → T' ≠ T → Blk w' g cur T'
section
variable {B : Nat} {T : TypeId}
theorem KB.refl (w : World) : KB B T w w := ⟨Below.refl _ _, fun _ _ _ h _ => h⟩
theorem KB.trans {w w1 w2 : World} (h : KB B T w w1) (k : KB B T w1 w2) : KB B T w w2 := ⟨h.below.trans k.below, fun g cur T' hb hn => k.keep g cur T' (h.keep g cur T' hb hn) hn⟩
theorem KB.fr {w w' : World} (h : Fr [] w w') (hB : B ≤ w.heap.size) : KB B T w w' := ⟨h.below (by simp) hB, fun _ _ _ hb _ => hb.fr h (by simp)⟩
theorem KB.mono {B' : Nat} {w w' : World} (h : KB B' T w w') (hB : B ≤ B') : KB B T w w' := ⟨h.below.mono hB, h.keep⟩
theorem KB.size {w w' : World} (h : KB B T w w') : w.heap.size ≤ w'.heap.size := h.below.size
theorem KB.append {w w' : World} {sz n : Nat} {v : Value} {xs : List Value} (hown : w.ownsRow B T sz v n xs) (hg : w.grownBy w' v.ownBlock) (hB : B ≤ w.heap.size) : KB B T w w' := by
  refine ⟨(Below.refl B w).grown hg hB (fun g hg => (hown.lt g hg).1), fun g cur T' hb hn => hb.grown hg (fun e => ?_)⟩
  obtain ⟨c, hc, _⟩ := own_ty hown e.symm
  exact hn (Blk.ty hb hc)
/-- a row of another kind stays. -/
theorem KB.own {w w' : World} {B' sz n : Nat} {T' : TypeId} {v : Value} {xs : List Value} (h : KB B T w w') (ho : w.ownsRow B' T' sz v n xs) (hT : T' ≠ T) : w'.ownsRow B' T' sz v n xs := by
  refine ⟨ho.1, ho.2.imp id ?_⟩
  rintro ⟨g, cap, cur, e1, e2, e3, e4⟩
  exact ⟨g, cap, cur, e1, e2, h.keep g cur _ e3 hT, e4⟩
end
theorem KB.tree {B : Nat} {T : TypeId} (hT : 178 ≠ T) {w w' : World} (h : KB B T w w') : ∀ {t : IT}, t.In w → t.In w'
  | .nil, _ => trivial
  | .node _ _ _ _ _ _, ⟨h1, h2, h3⟩ => ⟨h.keep _ _ _ h1 hT, KB.tree hT h h2, KB.tree hT h h3⟩
/-- a span's cells. -/
def spC (s : Sp) : List Value := [.int .i64 s.lo, .int .i64 s.hi, .int .i64 s.v]
theorem spC_len (s : Sp) : (spC s).length = 3 := rfl
theorem Try.infoKV : (Try.prog.info? 131).map (fun i => (i.zero, i.size, i.bytes)) = some (some (.agg #[.int .i64 0, .int .i64 0, .int .i64 0]), 3, 24) := by kernel_rfl
/-- the node that begins at a place. -/
def _root_.Go.Proofs.Ytomclflknjkhfaa.ItP.IT.find (lo : Int) : IT → IT
  | .nil => .nil
  | .node b s h m l r => if lo < s.lo then l.find lo else if s.lo < lo then r.find lo else .node b s h m l r
theorem find_in {w : World} {lo : Int} : ∀ {t : IT}, t.In w → (t.find lo).In w
  | .nil, _ => trivial
  | .node _ _ _ _ _ _, h => by
    unfold IT.find
    split
    · exact find_in h.2.1
    · split
      · exact find_in h.2.2
      · exact h
theorem find_get {lo : Int} : ∀ (t : IT), (t.find lo = .nil ∧ t.get lo = none) ∨ ∃ b s h m l r, t.find lo = .node b s h m l r ∧ t.get lo = some s
  | .nil => .inl ⟨rfl, rfl⟩
  | .node b s h m l r => by
    unfold IT.find IT.get
    split
    · exact find_get l
    · split
      · exact find_get r
      · exact .inr ⟨b, s, h, m, l, r, rfl, rfl⟩
theorem search_calls (lo : Int) : ∀ (t : IT) (w : World), t.In w →
    Calls Try.prog 102 #[.pointer t.ptr, .int .i64 lo] w fun e w' => e = .returned (.pointer (t.find lo).ptr) ∧ w' = w
  | .nil, w, _ => by
    show Calls _ _ #[.pointer none, _] _ _
    go_enter Try.func102, Try.ntmps102
    go_wp2
    go_ret
    exact ⟨rfl, rfl⟩
  | .node b s h m l r, w, hi => by
    obtain ⟨⟨p0, p1, p2, p3, p4, p5, p6⟩, pf⟩ := node_cells hi.1
    have L := Lib.hid (search_calls lo l w hi.2.1)
    have R := Lib.hid (search_calls lo r w hi.2.2)
    clear hi
    show Calls _ _ #[.pointer (some ⟨b, 0, none⟩), _] _ _
    by_cases c1 : lo < s.lo
    · have e : (IT.node b s h m l r).find lo = l.find lo := by simp only [IT.find]; rw [if_pos c1]
      rw [e]
      clear e
      go_enter Try.func102, Try.ntmps102
      go_wp2_with fail
      refine L.out.mono ?_
      rintro e w2 ⟨rfl, rfl⟩
      go_wp2
      go_ret
      exact ⟨rfl, rfl⟩
    · by_cases c2 : s.lo < lo
      · have e : (IT.node b s h m l r).find lo = r.find lo := by simp only [IT.find]; rw [if_neg c1, if_pos c2]
        rw [e]
        clear e
        go_enter Try.func102, Try.ntmps102
        go_wp2_with fail
        refine R.out.mono ?_
        rintro e w2 ⟨rfl, rfl⟩
        go_wp2
        go_ret
        exact ⟨rfl, rfl⟩
      · have e : (IT.node b s h m l r).find lo = .node b s h m l r := by simp only [IT.find]; rw [if_neg c1, if_neg c2]
        rw [e]
        clear e
        go_enter Try.func102, Try.ntmps102
        go_wp2
        go_ret
        exact ⟨rfl, rfl⟩
theorem size_calls : ∀ (t : IT) (w : World), t.In w → t.ids.length ≤ 10000000000 →
    Calls Try.prog 106 #[.pointer t.ptr] w fun e w' => e = .returned (.int .i64 (t.ids.length : Nat)) ∧ w' = w
  | .nil, w, _, _ => by
    show Calls _ _ #[.pointer none] _ _
    go_enter Try.func106, Try.ntmps106
    go_wp2
    go_ret
    exact ⟨rfl, rfl⟩
  | .node b s h m l r, w, hi, hl => by
    obtain ⟨⟨p0, p1, p2, p3, p4, p5, p6⟩, pf⟩ := node_cells hi.1
    simp only [IT.ids, List.length_cons, List.length_append] at hl
    have L := Lib.hid (size_calls l w hi.2.1 (by omega))
    have R := Lib.hid (size_calls r w hi.2.2 (by omega))
    clear hi
    show Calls _ _ #[.pointer (some ⟨b, 0, none⟩)] _ _
    go_enter Try.func106, Try.ntmps106
    go_wp2_with fail
    refine L.out.mono ?_
    rintro e w2 ⟨rfl, rfl⟩
    go_wp2_with fail
    refine R.out.mono ?_
    rintro e w3 ⟨rfl, rfl⟩
    go_wp2
    go_ret
    refine ⟨ret_int ?_, rfl⟩
    simp only [IT.ids, List.length_cons, List.length_append]
    omega
/-- overlaps of two intervals. -/
theorem meet_calls (a b c d : Int) (w : World) : Calls Try.prog 121 #[.agg #[.int .i64 a, .int .i64 b], .agg #[.int .i64 c, .int .i64 d]] w fun e w' => e = .returned (.bool (decide (a < d) && decide (c < b))) ∧ Fr [] w w' := by
  have F1 : Fr [] w ((w.alloc (Obj.cells #[.int .i64 a, .int .i64 b] 170)).alloc (Obj.cells #[.int .i64 c, .int .i64 d] 170)) := (Fr.alloc _ _ _).comp (Fr.alloc _ _ _)
  have HF := Lib.hid F1
  clear F1
  by_cases c1 : a < d
  · by_cases c2 : c < b
    · rw [decide_eq_true c1, decide_eq_true c2]
      go_enter Try.func121, Try.ntmps121
      go_wp2
      go_ret
      exact ⟨rfl, HF.out⟩
    · rw [decide_eq_true c1, decide_eq_false c2]
      go_enter Try.func121, Try.ntmps121
      go_wp2
      go_ret
      exact ⟨rfl, HF.out⟩
  · rw [decide_eq_false c1]
    go_enter Try.func121, Try.ntmps121
    go_wp2
    go_ret
    exact ⟨rfl, HF.out⟩
end Go.Proofs.Ytomclflknjkhfaa
