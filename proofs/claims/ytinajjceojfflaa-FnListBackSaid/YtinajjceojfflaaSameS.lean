/- spec.Same and spec.SeenSame of what is the same: they say so. -/
import Derived.Test.YtinajjceojfflaaSeen
import Derived.Lib.Hide
import Derived.Deep.RegionWith
namespace Go.Proofs.Ytinajjceojfflaa
open Go.RowKit

theorem IntSl.at_ {w : World} {A : Option Addr} {n cap : Nat} {xs : List Int} (h : IntSl w (.slice A n cap) xs) {i : Nat} (hi : i < xs.length) : ∃ b off, A = some ⟨b, off, none⟩ ∧ w.cell? ⟨b, off + i, none⟩ = some (.int .i64 (xs.getD i 0)) := by
  obtain ⟨A', cap', e, hh⟩ := h
  cases e
  rcases hh with rfl | ⟨b, off, cur, rfl, h1, h2, h3⟩
  · simp at hi
  · exact ⟨b, off, rfl, by rw [(show Blk w b cur _ from h2).cell, h3 i hi]⟩
theorem IntSl.form {w : World} {v : Value} {xs : List Int} (h : IntSl w v xs) : ∃ A c, v = .slice A xs.length c := by
  obtain ⟨A', cap', e, _⟩ := h
  exact ⟨_, _, e⟩
theorem IntSl.drewN {w : World} {v : Value} {xs : List Int} (h : IntSl w v xs) (n : Nat) : IntSl (w.drewN n) v xs := h
set_option maxRecDepth 100000 in
set_option maxHeartbeats 1600000 in
theorem same_calls (v1 v2 : Value) (xs : List Int) (w : World) (h1 : IntSl w v1 xs) (h2 : IntSl w v2 xs) (hm : xs.length ≤ 1000000000000) :
    Calls Try.prog 27 #[v1, v2] w fun e w' => e = .returned (.bool true) ∧ ∃ n, w' = w.drewN n := by
  obtain ⟨A1, c1, rfl⟩ := h1.form
  obtain ⟨A2, c2, rfl⟩ := h2.form
  have H1 := Lib.hid h1
  have H2 := Lib.hid h2
  clear h1 h2
  have t0 : ((xs.length : Int) != xs.length) = false := bne_self_eq_false _
  go_enter Try.func27, Try.ntmps27
  go_wp2
  clear t0
  go_loopw [5] (fun i wr => ∃ k : Nat, k ≤ xs.length ∧ i = .int .i64 (k : Nat) ∧ Hid (∃ n, wr = w.drewN n)) (fun i _ => xs.length - (intOf i).toNat)
  case atStart => exact ⟨0, Nat.zero_le _, rfl, ⟨0, rfl⟩⟩
  case round =>
    obtain ⟨k, hk, rfl, HK⟩ := hrel
    by_cases hlt : k < xs.length
    · have hr := HK.out
      obtain ⟨n, hn⟩ := hr
      obtain ⟨b1, o1, rfl, q1⟩ := (H1.out.drewN n).at_ hlt
      obtain ⟨b2, o2, rfl, q2⟩ := (H2.out.drewN n).at_ hlt
      rw [← hn] at q1 q2
      clear hn
      have p3 : (0 : Int) ≤ (k : Int) := by omega
      have p4 : (k : Int) < (xs.length : Int) := by omega
      have t1 : ((xs.getD k 0) != (xs.getD k 0)) = false := bne_self_eq_false _
      generalize xs.getD k 0 = y at q1 q2 t1
      go_wp2
      go_quiet (fail)
      go_wp2
      exact ⟨⟨k + 1, by omega, by go_num, by obtain ⟨n, hn⟩ := HK.out; rw [hn]; exact ⟨_, World.drewN_drewN _ _ _⟩⟩, by simp [intOf]; omega⟩
    · go_wp2
      go_ret
      exact ⟨rfl, HK.out⟩
/-- a row that tells ds, at a place. -/
theorem Seens.form {w : World} {B : Nat} {v : Value} {ds : List SeenD} (h : Seens w B v ds) : ∃ A c, v = .slice A ds.length c := by
  obtain ⟨cs, ho, _⟩ := h
  exact own_form ho
theorem Seens.at_ {w : World} {B n c : Nat} {A : Option Addr} {ds : List SeenD} (h : Seens w B (.slice A n c) ds) {i : Nat} {d : SeenD} (hi : ds[i]? = some d) : ∃ g ka kc va vc, A = some ⟨g, 0, none⟩ ∧ B ≤ g ∧ g < w.heap.size ∧
    w.cell? ⟨g, 0 + i * 4, none⟩ = some (.int .i64 d.n) ∧ w.cell? ⟨g, 0 + i * 4 + 1, none⟩ = some (.bool d.ok) ∧ w.cell? ⟨g, 0 + i * 4 + 2, none⟩ = some (.slice ka d.keys.length kc) ∧ w.cell? ⟨g, 0 + i * 4 + 3, none⟩ = some (.slice va d.vals.length vc) ∧
    IntSl w (.slice ka d.keys.length kc) d.keys ∧ IntSl w (.slice va d.vals.length vc) d.vals := by
  obtain ⟨cs, ho, ht⟩ := h
  obtain ⟨ka, kc, va, vc, g0, g1, g2, g3, g4, g5⟩ := ht.at_ hi
  rcases ho.2 with ⟨e, h0⟩ | ⟨g, cap, cur, e, h1, h2, _⟩
  · have := List.length_eq_zero_iff.1 h0
    subst this
    simp at hi
  · cases e
    have hc : ∀ j u, cs[j]? = some u → w.cell? ⟨g, 0 + j, none⟩ = some u := by
      intro j u hj
      have := ho.cells (g := g) rfl j u hj
      rwa [show (⟨g, 0, none⟩ : Addr).add j = ⟨g, 0 + j, none⟩ by unfold Addr.add; split <;> simp_all] at this
    exact ⟨g, ka, kc, va, vc, rfl, h1, (Array.getElem?_eq_some_iff.1 h2).1, hc _ _ g0, hc _ _ g1, hc _ _ g2, hc _ _ g3, g4, g5⟩
theorem Seens.drewN {w : World} {B : Nat} {v : Value} {ds : List SeenD} (h : Seens w B v ds) (n : Nat) : Seens (w.drewN n) B v ds := by
  obtain ⟨cs, ho, ht⟩ := h
  exact ⟨cs, ho, (show KeepsInts w (w.drewN n) from fun _ _ h => h).tr ht⟩
set_option maxRecDepth 100000 in
set_option maxHeartbeats 3200000 in
theorem seenSame_calls (v1 v2 : Value) (B1 B2 : Nat) (ds : List SeenD) (w : World) (h1 : Seens w B1 v1 ds) (h2 : Seens w B2 v2 ds) (hm : ds.length ≤ 1000000000000) (hs : ∀ d ∈ ds, d.keys.length ≤ 1000000000000 ∧ d.vals.length ≤ 1000000000000) :
    Calls Try.prog 18 #[v1, v2] w fun e w' => e = .returned (.bool true) ∧ ∃ n, w' = w.drewN n := by
  obtain ⟨A1, c1, rfl⟩ := h1.form
  obtain ⟨A2, c2, rfl⟩ := h2.form
  have H1 := Lib.hid h1
  have H2 := Lib.hid h2
  have HS := Lib.hid hs
  clear h1 h2 hs
  have t0 : ((ds.length : Int) != ds.length) = false := bne_self_eq_false _
  go_enter Try.func18, Try.ntmps18
  go_wp2
  clear t0
  go_loopw [5] (fun i wr => ∃ k : Nat, k ≤ ds.length ∧ i = .int .i64 (k : Nat) ∧ Hid (∃ n, wr = w.drewN n)) (fun i _ => ds.length - (intOf i).toNat)
  case atStart => exact ⟨0, Nat.zero_le _, rfl, ⟨0, rfl⟩⟩
  case round =>
    obtain ⟨k, hk, rfl, HK⟩ := hrel
    by_cases hlt : k < ds.length
    · obtain ⟨d, hd⟩ : ∃ d, ds[k]? = some d := ⟨_, List.getElem?_eq_getElem hlt⟩
      have hr := HK.out
      obtain ⟨n, hn⟩ := hr
      obtain ⟨g1, ka1, kc1, va1, vc1, rfl, _, _, q10, q11, q12, q13, k1, l1⟩ := (H1.out.drewN n).at_ hd
      obtain ⟨g2, ka2, kc2, va2, vc2, rfl, _, _, q20, q21, q22, q23, k2, l2⟩ := (H2.out.drewN n).at_ hd
      obtain ⟨s1, s2⟩ := HS.out d (List.mem_of_getElem? hd)
      rw [← hn] at q10 q11 q12 q13 q20 q21 q22 q23 k1 l1 k2 l2
      simp only [Nat.zero_add] at q10 q11 q12 q13 q20 q21 q22 q23
      clear hn
      have p3 : (0 : Int) ≤ (k : Int) := by omega
      have p4 : (k : Int) < (ds.length : Int) := by omega
      have HI := Lib.hid (And.intro (And.intro k1 k2) (And.intro l1 l2))
      have t1 : (d.n != d.n) = false := bne_self_eq_false _
      have t2 : (d.ok != d.ok) = false := bne_self_eq_false _
      clear hd k1 k2 l1 l2
      obtain ⟨dn, dok, dk, dv⟩ := d
      simp only at q10 q11 q12 q13 q20 q21 q22 q23 t1 t2 s1 s2
      go_wp2
      go_quiet ((first | (go_at_call_of 27 (Value.slice ka1 dk.length kc1); exact Calls.quiet_of (same_calls _ _ dk _ (HI.out.1.1.drewN _) (HI.out.1.2.drewN _) s1)) | (go_at_call 27; exact Calls.quiet_of (same_calls _ _ dv _ (HI.out.2.1.drewN _) (HI.out.2.2.drewN _) s2))))
      go_wp2
      exact ⟨⟨k + 1, by omega, by go_num, by obtain ⟨n, hn⟩ := HK.out; rw [hn]; exact ⟨_, World.drewN_drewN _ _ _⟩⟩, by simp [intOf]; omega⟩
    · go_wp2
      go_ret
      exact ⟨rfl, HK.out⟩
end Go.Proofs.Ytinajjceojfflaa
