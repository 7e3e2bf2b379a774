/- AVL trees in memory: the least node, search, size, height. -/
import Derived.Test.YtjbelfbfhcmgeaaAvl3
namespace Go.Proofs.Ytjbelfbfhcmgeaa
open Go.RowKit

/-- what a value's cell holds. -/
def VOk (v : Value) : Prop := ∃ x : Int, v = .int .i64 x
def AT.Vs : AT → Prop
  | .nil => True
  | .node _ _ v _ l r => VOk v ∧ l.Vs ∧ r.Vs
/-- the block, the key and the value of the least node. -/
def AT.least : AT → Nat × Int × Value
  | .nil => (0, 0, undef)
  | .node b k v _ .nil _ => (b, k, v)
  | .node _ _ _ _ (.node b k v h l r) _ => (AT.node b k v h l r).least
theorem AT.least_cells : ∀ {t : AT} {w : World}, t.In w → t ≠ .nil → w.cell? ⟨t.least.1, 0, none⟩ = some (.int .i64 t.least.2.1) ∧ w.cell? ⟨t.least.1, 1, none⟩ = some t.least.2.2 ∧ t.least.1 ∈ t.ids
  | .nil, _, _, h => absurd rfl h
  | .node b k v h .nil r, w, hi, _ => by
    obtain ⟨⟨p0, p1, p2, p3, p4⟩, pf⟩ := node_cells hi.1
    exact ⟨p0, p1, List.mem_cons_self ..⟩
  | .node b k v h (.node b2 k2 v2 h2 l2 r2) r, w, hi, _ => by
    obtain ⟨a1, a2, a3⟩ := AT.least_cells (t := .node b2 k2 v2 h2 l2 r2) hi.2.1 (by simp)
    exact ⟨a1, a2, List.mem_cons_of_mem _ (List.mem_append_left _ a3)⟩
theorem AT.least_v : ∀ {t : AT}, t.Vs → t ≠ .nil → VOk t.least.2.2
  | .nil, _, h => absurd rfl h
  | .node _ _ _ _ .nil _, h, _ => h.1
  | .node _ _ _ _ (.node b2 k2 v2 h2 l2 r2) _, h, _ => AT.least_v (t := .node b2 k2 v2 h2 l2 r2) h.2.1 (by simp)
theorem least_calls : ∀ (t : AT) (w : World), t.In w → t ≠ .nil →
    Calls Try.prog 72 #[.pointer t.ptr] w fun e w' => e = .returned (.pointer (some ⟨t.least.1, 0, none⟩)) ∧ w = w' := by
  intro t
  induction t with
  | nil => intro w _ h; exact absurd rfl h
  | node b k v h l r ihl _ =>
    intro w hi _
    obtain ⟨⟨p0, p1, p2, p3, p4⟩, pf⟩ := node_cells hi.1
    show Calls _ _ #[.pointer (some ⟨b, 0, none⟩)] _ _
    cases l with
    | nil =>
      simp only [AT.ptr, AT.least] at *
      clear ihl
      go_enter Try.func72, Try.ntmps72
      go_wp2
      go_ret
      exact ⟨rfl, rfl⟩
    | node b2 k2 v2 h2 l2 r2 =>
      have H := Lib.hid (ihl w hi.2.1 (by simp))
      have e : (AT.node b k v h (.node b2 k2 v2 h2 l2 r2) r).least = (AT.node b2 k2 v2 h2 l2 r2).least := rfl
      rw [e]
      clear ihl e
      simp only [AT.ptr] at p3
      go_enter Try.func72, Try.ntmps72
      go_wp2_with fail
      refine H.out.mono ?_
      rintro e w1 ⟨rfl, rfl⟩
      go_wp2
      go_ret
      exact ⟨rfl, rfl⟩
/-- the node that has a key that is alike. -/
def AT.find (xs : List Int) (k : Int) : AT → AT
  | .nil => .nil
  | .node b k2 v h l r => if cmpOf xs k k2 < 0 then l.find xs k else if 0 < cmpOf xs k k2 then r.find xs k else .node b k2 v h l r
theorem AT.find_in (xs : List Int) (k : Int) {w : World} : ∀ {t : AT}, t.In w → (t.find xs k).In w
  | .nil, _ => trivial
  | .node b k2 v h l r, hi => by
    unfold AT.find
    split
    · exact AT.find_in xs k hi.2.1
    · split
      · exact AT.find_in xs k hi.2.2
      · exact hi
theorem AT.find_vs (xs : List Int) (k : Int) : ∀ {t : AT}, t.Vs → (t.find xs k).Vs
  | .nil, _ => trivial
  | .node b k2 v h l r, hi => by
    unfold AT.find
    split
    · exact AT.find_vs xs k hi.2.1
    · split
      · exact AT.find_vs xs k hi.2.2
      · exact hi
set_option maxHeartbeats 1000000 in
theorem search_calls (xs : List Int) (f : Value) (B : Nat) (k : Int) : ∀ (t : AT) (w : World), t.In w → LessOk w B f xs → 
    Calls Try.prog 65 #[.pointer t.ptr, .int .i64 k, f] w fun e w' => e = .returned (.pointer (t.find xs k).ptr) ∧ ∃ n, w' = w.drewN n := by
  intro t
  induction t with
  | nil =>
    intro w _ hf
    show Calls _ _ #[.pointer none, _, _] _ _
    go_enter Try.func65, Try.ntmps65
    go_wp2
    go_ret
    exact ⟨rfl, 0, rfl⟩
  | node b k2 v2 h l r ihl ihr =>
    intro w hi hf
    obtain ⟨⟨p0, p1, p2, p3, p4⟩, pf⟩ := node_cells hi.1
    show Calls _ _ #[.pointer (some ⟨b, 0, none⟩), _, _] _ _
    have hc := compare_calls xs f B k k2
    have hf1 := fun n => hf.below (Below.drewN (B := B) w n)
    rcases cmp_lt (xs := xs) (a := k) (b := k2) with c | c | c
    · have e : (AT.node b k2 v2 h l r).find xs k = l.find xs k := if_pos (by omega)
      rw [e]
      rw [c] at hc
      clear e c
      have HC := Lib.hid hc
      clear hc
      go_enter Try.func65, Try.ntmps65
      go_wp2_with fail
      refine (HC.out w hf).mono ?_
      rintro e w1 ⟨rfl, n1, rfl⟩
      go_wp2_with fail
      refine (ihl _ (hi.2.1.drewN n1) (hf1 _)).mono ?_
      rintro e w1 ⟨rfl, n2, rfl⟩
      go_wp2
      go_ret
      exact ⟨rfl, _, rfl⟩
    · have e : (AT.node b k2 v2 h l r).find xs k = .node b k2 v2 h l r := (if_neg (by omega)).trans (if_neg (by omega))
      rw [e]
      rw [c] at hc
      clear e c
      have HC := Lib.hid hc
      clear hc
      go_enter Try.func65, Try.ntmps65
      go_wp2_with fail
      refine (HC.out w hf).mono ?_
      rintro e w1 ⟨rfl, n1, rfl⟩
      go_wp2_with fail
      refine (HC.out _ (hf1 _)).mono ?_
      rintro e w1 ⟨rfl, n2, rfl⟩
      go_wp2
      go_ret
      exact ⟨rfl, _, rfl⟩
    · have e : (AT.node b k2 v2 h l r).find xs k = r.find xs k := (if_neg (by omega)).trans (if_pos (by omega))
      rw [e]
      rw [c] at hc
      clear e c
      have HC := Lib.hid hc
      clear hc
      go_enter Try.func65, Try.ntmps65
      go_wp2_with fail
      refine (HC.out w hf).mono ?_
      rintro e w1 ⟨rfl, n1, rfl⟩
      go_wp2_with fail
      refine (HC.out _ (hf1 _)).mono ?_
      rintro e w1 ⟨rfl, n2, rfl⟩
      go_wp2_with fail
      refine (ihr _ (hi.2.2.drewN _) (hf1 _)).mono ?_
      rintro e w1 ⟨rfl, n3, rfl⟩
      go_wp2
      go_ret
      exact ⟨rfl, _, rfl⟩
set_option maxHeartbeats 1000000 in
theorem size_calls : ∀ (t : AT) (w : World), t.In w → t.ids.length ≤ 20000000000 →
    Calls Try.prog 66 #[.pointer t.ptr] w fun e w' => e = .returned (.int .i64 t.ids.length) ∧ ∃ n, w' = w.drewN n := by
  intro t
  induction t with
  | nil =>
    intro w _ hf
    show Calls _ _ #[.pointer none] _ _
    go_enter Try.func66, Try.ntmps66
    go_wp2
    go_ret
    exact ⟨rfl, 0, rfl⟩
  | node b k2 v2 h l r ihl ihr =>
    intro w hi hs
    obtain ⟨⟨p0, p1, p2, p3, p4⟩, pf⟩ := node_cells hi.1
    show Calls _ _ #[.pointer (some ⟨b, 0, none⟩)] _ _
    simp only [AT.ids, List.length_cons, List.length_append] at hs ⊢
    have b1 : 0 ≤ (l.ids.length : Int) := by omega
    have b2 : (l.ids.length : Int) ≤ 20000000000 := by omega
    have b3 : 0 ≤ (r.ids.length : Int) := by omega
    have b4 : (r.ids.length : Int) ≤ 20000000000 := by omega
    have qt1 := fun n => (ihl (w.drewN n) (hi.2.1.drewN n) (by omega))
    have qt2 := fun n => (ihr (w.drewN n) (hi.2.2.drewN n) (by omega))
    have H1 := Lib.hid qt1
    have H2 := Lib.hid qt2
    clear qt1 qt2 ihl ihr hs
    go_enter Try.func66, Try.ntmps66
    go_wp2_with fail
    go_quiet ((first | (go_at_call_of 66 (l.ptr); exact Calls.quiet_of (H1.out _)) | (go_at_call 66; exact Calls.quiet_of (H2.out _))))
    go_wp2
    go_ret
    exact ⟨ret_int (by omega), _, rfl⟩
end Go.Proofs.Ytjbelfbfhcmgeaa
