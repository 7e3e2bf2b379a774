/- spec.kid, spec.Kids: where the parts of each node of a list stand. -/
import Derived.Test.YtjbelfbfhcmgeaaKidsA
import Derived.Test.YtjbelfbfhcmgeaaProg
import Derived.Test.YtjbelfbfhcmgeaaRow
import Derived.Test.YtjbelfbfhcmgeaaFrB
import Derived.Lib.Hide
import Derived.Deep.LoopGhost
import Derived.Deep.AppendLies
namespace Go.Proofs.Ytjbelfbfhcmgeaa.Kp
open Go.RowKit

def bool1 (x : Bool) : List Value := [.bool x]
theorem bool1_len (x : Bool) : (bool1 x).length = 1 := rfl
def num1 (x : Int) : List Value := [.int .i64 x]
theorem num1_len (x : Int) : (num1 x).length = 1 := rfl
theorem num1_flat : ∀ xs : List Int, xs.flatMap num1 = xs.map i64v
  | [] => rfl
  | x :: xs => by rw [List.flatMap_cons, num1_flat xs]; rfl
/-- a slice of slices, of elements of one cell each, in blocks below B. -/
structure SS {α : Type} (cells : α → List Value) (w : World) (B : Nat) (v : Value) (xss : List (List α)) : Prop where
  is : ∃ A cap, v = .slice A xss.length cap ∧ (xss = [] ∨ ∃ b off, A = some ⟨b, off, none⟩ ∧ xss.length ≤ cap ∧ b < B ∧ b < w.heap.size ∧ ∀ i xs, xss[i]? = some xs → ∃ u, w.cell? ⟨b, off + i, none⟩ = some u ∧ SlC 1 cells w B u xs)
section
variable {α : Type} {cells : α → List Value}
theorem SS.below {w w' : World} {B : Nat} {v : Value} {l : List (List α)} (h : SS cells w B v l) (hb : Below B w w') : SS cells w' B v l := by
  obtain ⟨A, cap, e, h⟩ := h.is
  refine ⟨A, cap, e, h.imp id ?_⟩
  rintro ⟨b, off, e, h1, h3, h4, h5⟩
  exact ⟨b, off, e, h1, h3, Nat.lt_of_lt_of_le h4 hb.size, fun i xs hi => by
    obtain ⟨u, hu, hs⟩ := h5 i xs hi
    exact ⟨u, (hb.cell (p := ⟨b, off + i, none⟩) h3).trans hu, hs.below hb⟩⟩
theorem SS.mono {w : World} {B B' : Nat} {v : Value} {l : List (List α)} (h : SS cells w B v l) (hB : B ≤ B') : SS cells w B' v l := by
  obtain ⟨A, cap, e, h⟩ := h.is
  refine ⟨A, cap, e, h.imp id ?_⟩
  rintro ⟨b, off, e, h1, h3, h4, h5⟩
  exact ⟨b, off, e, h1, Nat.lt_of_lt_of_le h3 hB, h4, fun i xs hi => by
    obtain ⟨u, hu, hs⟩ := h5 i xs hi
    exact ⟨u, hu, hs.mono hB⟩⟩
theorem SS.form {w : World} {B : Nat} {v : Value} {l : List (List α)} (h : SS cells w B v l) : ∃ A c, v = .slice A l.length c := by
  obtain ⟨A, cap, e, _⟩ := h.is
  exact ⟨A, cap, e⟩
theorem SS.at_ {w : World} {B n c : Nat} {A : Option Addr} {l : List (List α)} (h : SS cells w B (.slice A n c) l) {i : Nat} (hi : i < l.length) : ∃ b off A2 c2, A = some ⟨b, off, none⟩ ∧ l.length ≤ c ∧ b < B ∧ b < w.heap.size ∧
    w.cell? ⟨b, off + i, none⟩ = some (.slice A2 (l.getD i []).length c2) ∧ SlC 1 cells w B (.slice A2 (l.getD i []).length c2) (l.getD i []) := by
  obtain ⟨A', cap, e, h⟩ := h.is
  cases e
  rcases h with rfl | ⟨b, off, rfl, h1, h3, h4, h5⟩
  · simp at hi
  · have hg : l[i]? = some (l.getD i []) := by rw [List.getD_eq_getElem?_getD, List.getElem?_eq_getElem hi]; rfl
    obtain ⟨u, hu, hs⟩ := h5 i _ hg
    obtain ⟨A2, c2, rfl⟩ := hs.form
    exact ⟨b, off, A2, c2, rfl, h1, h3, h4, hu, hs⟩
end
theorem one_at {α : Type} {cells : α → List Value} {w : World} {B n c : Nat} {A : Option Addr} {xs : List α} (h : SlC 1 cells w B (.slice A n c) xs) {i : Nat} {x : α} (hx : xs[i]? = some x) {u : Value} (hu : cells x = [u]) : ∃ b off, A = some ⟨b, off, none⟩ ∧ xs.length ≤ c ∧ b < B ∧ w.cell? ⟨b, off + i, none⟩ = some u := by
  have hi := (List.getElem?_eq_some_iff.1 hx).1
  obtain ⟨b, off, a, e, h1, h2, _, h4, h5⟩ := SlC.at_ h hi
  have := h5 0 u (by rw [hx] at h4; cases h4; rw [hu]; rfl)
  rw [Nat.mul_one, Nat.add_zero] at this
  exact ⟨b, off, e, h1, h2, this⟩
theorem kd_weaken {w : World} {B B' : Nat} {e : TypeId} {s n : Nat} {v : Value} {xs : List Value} (h : w.ownsRow B' e s v n xs) (hB : B ≤ B') : w.ownsRow B e s v n xs := by
  refine ⟨h.1, h.2.imp id ?_⟩
  rintro ⟨g, cap, cur, e1, e2, e3⟩
  exact ⟨g, cap, cur, e1, Nat.le_trans hB e2, e3⟩
theorem kd_frB {w w' : World} {B B0 : Nat} {e : TypeId} {s n : Nat} {v : Value} {xs : List Value} {S : List Nat} (h : w.ownsRow B e s v n xs) (hf : FrB B0 S w w') (hS : ∀ b ∈ S, ∃ cs T, Blk w b cs T ∧ T ≠ e) (hB : w.heap.size ≤ B0) : w'.ownsRow B e s v n xs := by
  refine ⟨h.1, h.2.imp id ?_⟩
  rintro ⟨g, cap, cur, e1, e2, e3, e4⟩
  have hl : g < w.heap.size := (Array.getElem?_eq_some_iff.1 e3).1
  refine ⟨g, cap, cur, e1, e2, ?_, e4⟩
  rw [hf.block g (by omega) (fun hx => by
    obtain ⟨cs, T, hb, hT⟩ := hS g hx
    unfold Blk at hb
    rw [hb] at e3
    simp at e3
    exact hT e3.2)]
  exact e3
theorem kd_below {w w' : World} (hb : Below w.heap.size w w') {B s n : Nat} {T : TypeId} {v : Value} {xs : List Value} (ho : w.ownsRow B T s v n xs) : w'.ownsRow B T s v n xs :=
  kd_frB ho (FrB.of_below (S := []) hb) (fun _ h => by cases h) (Nat.le_refl _)
theorem kd_set {w : World} {b i : Nat} {cs : Array Value} {T : TypeId} {u : Value} (hb : Blk w b cs T) {B s n : Nat} {e : TypeId} {v : Value} {xs : List Value} (h : w.ownsRow B e s v n xs) (hT : T ≠ e) : (w.setCell ⟨b, i, none⟩ u).ownsRow B e s v n xs :=
  kd_frB h (FrB.setCell (B := w.heap.size) (S := [b]) w b i u (by simp)) (fun x hx => by rw [List.mem_singleton] at hx; subst hx; exact ⟨cs, T, hb, hT⟩) (Nat.le_refl _)
theorem kd_grown {w w' : World} {b : Nat} {cs : Array Value} {T : TypeId} (hb : Blk w b cs T) {B s n : Nat} {e : TypeId} {v : Value} {xs : List Value} (h : w.ownsRow B e s v n xs) (hg : w.grownBy w' v.ownBlock) (hT : T ≠ e) : Blk w' b cs T := by
  refine hb.grown hg (fun hx => ?_)
  rcases h.2 with ⟨e1, _⟩ | ⟨g, cap, cur, e1, h1, hc, _⟩
  · rw [e1] at hx; cases hx
  · rw [e1] at hx; cases hx
    unfold Blk at hb
    rw [hb] at hc
    simp at hc
    exact hT hc.2
theorem kd_form {w : World} {B : Nat} {T : TypeId} {s n : Nat} {v : Value} {xs : List Value} (h : w.ownsRow B T s v n xs) : ∃ A c, v = .slice A n c := by
  rcases h.2 with ⟨e, h0⟩ | ⟨g, cap, cur, e, _⟩
  · subst h0; exact ⟨_, _, e⟩
  · exact ⟨_, _, e⟩
theorem kd_news {W : World} {b : Nat} {cs : List Value} {T : TypeId} (h : Blk W b cs.toArray T) : ∀ j u, cs[j]? = some u → W.cell? ((⟨b, 0, none⟩ : Addr).add j) = some u := by
  intro j u hj
  have e : ((⟨b, 0, none⟩ : Addr).add j) = ⟨b, j, none⟩ := by unfold Addr.add; split <;> simp_all
  rw [e, h.cell j]
  simpa using hj
theorem Try.infoInt : (Try.prog.info? 3).map (fun i => (i.zero, i.size, i.bytes)) = some (some (.int .i64 0), 1, 8) := by kernel_rfl
/-- a row of places. -/
def RowAt (w : World) (B : Nat) (cs : Array Value) (j : Nat) (xs : List Int) : Prop := ∃ u, cs[j]? = some u ∧ w.ownsRow B 3 1 u xs.length (xs.map i64v)
/-- at a round's head: the list goes on at m, the node at i has the parts L. -/
structure KMid (has : List (List Bool)) (i ob : Nat) (cs : Array Value) (w : World) (m : Nat) (L : List Int) (cs' : Array Value) (wr : World) : Prop where
  blk : Blk wr ob cs' 22
  size : cs'.size = has.length
  old : ∀ j, j < i ∨ m ≤ j → cs'[j]? = cs[j]?
  rows : ∀ j, i < j → j < m → RowAt wr w.heap.size cs' j (kidsAt has j)
  own : RowAt wr w.heap.size cs' i L
  apart : ∀ j u v, i < j → j < m → cs'[j]? = some u → cs'[i]? = some v → u.ownBlock = none ∨ u.ownBlock ≠ v.ownBlock
  fr : FrB w.heap.size [ob] w wr
/-- k flags of the node at i are done. -/
structure KInv (has : List (List Bool)) (bs : List Bool) (i ob : Nat) (cs : Array Value) (w : World) (k m : Nat) (cs' : Array Value) (wr : World) : Prop where
  ends : endsL has (bs.take k) (i + 1) = some m
  mid : KMid has i ob cs w m (kidsL has (bs.take k) (i + 1)) cs' wr
theorem FrB.le {B B' : Nat} {S : List Nat} {w w' : World} (h : FrB B S w w') (hB : B' ≤ B) : FrB B' S w w' := ⟨h.os, h.tape, h.output, h.size, fun k hk hn => h.block k (by omega) hn⟩
theorem RowAt.put {W w3 : World} {B ob j i : Nat} {cs : Array Value} {T : TypeId} {xs : List Int} {v' : Value} (h : RowAt W B cs j xs) (hj : j ≠ i) (hb : Blk w3 ob cs T) (hT : T ≠ 3) (k : ∀ u, cs[j]? = some u → w3.ownsRow B 3 1 u xs.length (xs.map i64v)) :
    RowAt (w3.setCell ⟨ob, i, none⟩ v') B (cs.setIfInBounds i v') j xs := by
  obtain ⟨u, hu, _⟩ := h
  exact ⟨u, by rw [Array.getElem?_setIfInBounds_ne (Ne.symm hj)]; exact hu, kd_set hb (k u hu) hT⟩
theorem KMid.put {has : List (List Bool)} {i ob : Nat} {cs : Array Value} {w : World} {m : Nat} {L : List Int} {cs' : Array Value} {wr w3 : World} {A : Option Addr} {c g cap : Nat} {z : Int} {o : Obj} (h : KMid has i ob cs w m L cs' wr) (hi : i < has.length) (him : i < m)
    (hu : cs'[i]? = some (.slice A L.length c)) (ho : wr.ownsRow w.heap.size 3 1 (.slice A L.length c) L.length (L.map i64v)) (hown : w3.ownsRow w.heap.size 3 1 (.slice (some ⟨g, 0, none⟩) (L.length + 1) cap) (L.length + 1) (L.map i64v ++ [.int .i64 z])) (hg : (wr.alloc o).grownBy w3 (Value.slice A L.length c).ownBlock)
    (hat : (Value.slice A L.length c).ownBlock = some g ∨ g = wr.heap.size + 1) :
    KMid has i ob cs w m (L ++ [z]) (cs'.setIfInBounds i (.slice (some ⟨g, 0, none⟩) (L.length + 1) cap)) (w3.setCell ⟨ob, i, none⟩ (.slice (some ⟨g, 0, none⟩) (L.length + 1) cap)) := by
  have hB3 : Blk w3 ob cs' 22 := kd_grown (h.blk.alloc o) (ho.alloc o) hg (by decide)
  have hsi : i < cs'.size := by rw [h.size]; exact hi
  refine ⟨hB3.set i _, by rw [Array.size_setIfInBounds]; exact h.size, fun j hj => ?_, fun j h1 h2 => ?_, ?_, fun j u v h1 h2 hju hv => ?_, ?_⟩
  · rw [Array.getElem?_setIfInBounds_ne (by omega)]; exact h.old j hj
  · obtain ⟨u, hu', ho'⟩ := h.rows j h1 h2
    exact ⟨u, by rw [Array.getElem?_setIfInBounds_ne (by omega)]; exact hu', kd_set hB3 ((ho'.alloc o).kept hg (h.apart j u _ h1 h2 hu' hu)) (by decide)⟩
  · refine ⟨_, ?_, kd_set hB3 (by simpa using hown) (by decide)⟩
    rw [Array.getElem?_setIfInBounds_self_of_lt hsi]
  · rw [Array.getElem?_setIfInBounds_ne (by omega)] at hju
    rw [Array.getElem?_setIfInBounds_self_of_lt hsi] at hv
    cases hv
    obtain ⟨u', hu', ho'⟩ := h.rows j h1 h2
    rw [hju] at hu'
    cases hu'
    cases hb : u.ownBlock with
    | none => exact .inl rfl
    | some gu =>
      right
      show some gu ≠ some g
      intro e
      cases e
      rcases hat with hat | hat
      · rcases h.apart j u _ h1 h2 hju hu with e | e
        · rw [hb] at e; cases e
        · exact e (hb.trans hat.symm)
      · have := (ho'.lt _ hb).2
        omega
  · have f1 := (h.fr.alloc h.fr.size o).grown hg (by have := h.fr.size; simp; omega) (fun g hg => (ho.lt g hg).1)
    exact f1.trans (FrB.setCell w3 ob i _ (by simp))
/-- what kid leaves. -/
def KidPost (has : List (List Bool)) (i ob : Nat) (cs : Array Value) (w : World) (e : Ending) (w' : World) : Prop :=
  FrB w.heap.size [ob] w w' ∧ (∃ cs', Blk w' ob cs' 22 ∧ cs'.size = has.length ∧ (∀ r, ends has i = some r → (∀ j, j < i ∨ r ≤ j → cs'[j]? = cs[j]?) ∧ ∀ j, i ≤ j → j < r → RowAt w' w.heap.size cs' j (kidsAt has j))) ∧
    e = .returned (.int .i64 (match ends has i with | some r => (r : Int) | none => -1))
theorem kid_out (has : List (List Bool)) (hn : has.length ≤ 5000000000) (hv : Value) (B i ob : Nat) (w : World) (cs : Array Value) (hi : has.length ≤ i) (hi2 : i ≤ 5000000000) (hs : SS bool1 w B hv has) (ho : Blk w ob cs 22) (hz : cs.size = has.length) :
    Calls Try.prog 48 #[hv, .int .i64 i, .slice (some ⟨ob, 0, none⟩) has.length has.length] w (KidPost has i ob cs w) := by
  obtain ⟨A, c, rfl⟩ := hs.form
  have HP : KidPost has i ob cs w (.returned (.int .i64 (-1))) w := ⟨FrB.refl _ _ _, ⟨cs, ho, hz, fun r hr => by rw [ends_ge hi] at hr; cases hr⟩, by rw [ends_ge hi]⟩
  replace HP := Lib.hid HP
  clear hs ho hz
  go_enter Try.func48, Try.ntmps48
  go_wp2
  go_ret
  exact HP.out
theorem KInv.start {has : List (List Bool)} {i ob : Nat} {cs : Array Value} {w : World} (ho : Blk w ob cs 22) (hz : cs.size = has.length) (hc : cs[i]? = some (.slice none 0 0)) : KInv has (has.getD i []) i ob cs w 0 (i + 1) cs w :=
  ⟨by simp [endsL, go], ⟨ho, hz, fun _ _ => rfl, fun j h1 h2 => by omega, ⟨_, hc, by simpa [kidsL] using World.ownsRow_nil w w.heap.size 3 1⟩, fun j u v h1 h2 => by omega, FrB.refl _ _ _⟩⟩
theorem KMid.call {has : List (List Bool)} {i ob : Nat} {cs : Array Value} {w : World} {m r : Nat} {L : List Int} {cs' : Array Value} {wr w5 : World} {e : Ending} (h : KMid has i ob cs w m L cs' wr) (him : i < m) (hp : KidPost has m ob cs' wr e w5) (he : ends has m = some r) : ∃ cs5, KMid has i ob cs w r L cs5 w5 := by
  obtain ⟨f, ⟨cs5, b5, s5, h5⟩, _⟩ := hp
  obtain ⟨o5, r5⟩ := h5 r he
  have hmr := ends_gt he
  have hS : ∀ b ∈ [ob], ∃ cs T, Blk wr b cs T ∧ T ≠ 3 := fun b hb => by rw [List.mem_singleton] at hb; subst hb; exact ⟨_, _, h.blk, by decide⟩
  have hw := h.fr.size
  refine ⟨cs5, b5, s5, fun j hj => ?_, fun j h1 h2 => ?_, ?_, fun j u v h1 h2 hju hv => ?_, h.fr.trans (FrB.le f hw)⟩
  · rw [o5 j (by omega)]; exact h.old j (by omega)
  · by_cases hj : j < m
    · obtain ⟨u, hu, ho⟩ := h.rows j h1 hj
      exact ⟨u, by rw [o5 j (by omega)]; exact hu, kd_frB ho f hS (Nat.le_refl _)⟩
    · obtain ⟨u, hu, ho⟩ := r5 j (by omega) h2
      exact ⟨u, hu, kd_weaken ho hw⟩
  · obtain ⟨u, hu, ho⟩ := h.own
    exact ⟨u, by rw [o5 i (by omega)]; exact hu, kd_frB ho f hS (Nat.le_refl _)⟩
  · rw [o5 i (by omega)] at hv
    by_cases hj : j < m
    · rw [o5 j (by omega)] at hju
      exact h.apart j u v h1 hj hju hv
    · obtain ⟨u', hu, ho⟩ := r5 j (by omega) h2
      rw [hju] at hu
      cases hu
      obtain ⟨v', hv', hov⟩ := h.own
      rw [hv] at hv'
      cases hv'
      cases hb : u.ownBlock with
      | none => exact .inl rfl
      | some gu =>
        right
        intro e
        have h1 := (ho.lt _ hb).1
        have h2 := (hov.lt _ e.symm).2
        omega
set_option maxRecDepth 100000 in
set_option maxHeartbeats 1600000 in
theorem kid_calls (has : List (List Bool)) (hn : has.length ≤ 5000000000) (hb : ∀ bs ∈ has, bs.length ≤ 1000000) (hv : Value) (B : Nat) : ∀ (d i : Nat), has.length - i ≤ d → i ≤ has.length → ∀ (w : World) (ob : Nat) (cs : Array Value), SS bool1 w B hv has → Blk w ob cs 22 → cs.size = has.length → B ≤ ob → (∀ j, i ≤ j → j < has.length → cs[j]? = some (.slice none 0 0)) →
    Calls Try.prog 48 #[hv, .int .i64 i, .slice (some ⟨ob, 0, none⟩) has.length has.length] w (KidPost has i ob cs w) := by
  intro d
  induction d with
  | zero => intro i hd hle w ob cs hs ho hz _ _; exact kid_out has (by omega) hv B i ob w cs (by omega) (by omega) hs ho hz
  | succ d ih =>
    intro i hd hle w ob cs hs ho hz hB hc
    by_cases hi : i < has.length
    case neg => exact kid_out has (by omega) hv B i ob w cs (by omega) (by omega) hs ho hz
    obtain ⟨i0, hi0, hz0, hz1, hz2⟩ := info_parts Try.infoInt
    have hobl := ho.lt
    have HB := Lib.hid (hb (has.getD i []) (by rw [List.getD_eq_getElem?_getD, List.getElem?_eq_getElem hi]; exact List.getElem_mem hi))
    obtain ⟨A, c, rfl⟩ := hs.form
    obtain ⟨hb1, off, A2, c2, rfl, h1, h2, h3, q0, h5⟩ := hs.at_ hi
    have HS := Lib.hid hs
    have HR := Lib.hid h5
    have HE := Lib.hid (ends_lt hi)
    have HK0 := Lib.hid (KInv.start ho hz (hc i (Nat.le_refl _) hi))
    have HI := Lib.hid ih
    have HC := Lib.hid hc
    have HKA := Lib.hid (show kidsAt has i = kidsL has (has.getD i []) (i + 1) from rfl)
    clear hs h5 ho hz hc ih hb
    generalize hbs : has.getD i [] = bs at *
    clear hbs
    have hbl := HB.out
    clear HB
    have d0 : decide ((i : Int) < 0) = false := decide_eq_false (by omega)
    have d1 : decide (has.length ≤ i) = false := decide_eq_false (by omega)
    go_enter Try.func48, Try.ntmps48
    go_wp2_with fail
    go_loopw [7, 8] (fun nx kk wr => ∃ (k m : Nat) (cs' : Array Value), k ≤ bs.length ∧ m ≤ has.length ∧ i < m ∧ kk = .int .i64 (k : Nat) ∧ nx = .int .i64 (m : Nat) ∧ Hid (KInv has bs i ob cs w k m cs' wr)) (fun _ kk _ => bs.length - (intOf kk).toNat)
    case atStart => exact ⟨0, i + 1, cs, Nat.zero_le _, by omega, by omega, rfl, by go_num, HK0⟩
    case round =>
      obtain ⟨k, m, cs', hk, hm, him, rfl, rfl, HK⟩ := hrel
      have Bl : Below B w wr := ⟨HK.out.mid.fr.os, HK.out.mid.fr.tape, HK.out.mid.fr.output, HK.out.mid.fr.size, fun j hj => HK.out.mid.fr.block j (by omega) (by simp; omega)⟩
      have q0' := (Bl.cell (p := ⟨hb1, off + i, none⟩) h2).trans q0
      have h4 : hb1 < wr.heap.size := Nat.lt_of_lt_of_le h3 Bl.size
      by_cases hlt : k < bs.length
      case neg =>
        have : k = bs.length := by omega
        subst this
        go_wp2_with fail
        go_ret
        have h := HK.out
        have he : ends has i = some m := by rw [HE.out, ← h.ends, List.take_length]
        refine ⟨h.mid.fr, ⟨cs', h.mid.blk, h.mid.size, fun r hr => ?_⟩, by rw [he]; rfl⟩
        rw [he] at hr
        cases hr
        refine ⟨h.mid.old, fun j h1 h2 => ?_⟩
        rcases Nat.eq_or_lt_of_le h1 with rfl | h1
        · rw [HKA.out]
          have := h.mid.own
          rwa [List.take_length] at this
        · exact h.mid.rows j h1 h2
      have hbk : bs[k]? = some (bs.getD k false) := by rw [List.getD_eq_getElem?_getD, List.getElem?_eq_getElem hlt]; rfl
      obtain ⟨b2, off2, rfl, g1, g2, q1⟩ := one_at (HR.out.below Bl) hbk (u := .bool (bs.getD k false)) rfl
      obtain ⟨u, hu, hown⟩ := HK.out.mid.own
      obtain ⟨A3, c3, rfl⟩ := kd_form hown
      have q2 : wr.cell? ⟨ob, i, none⟩ = some _ := (HK.out.mid.blk.cell i).trans hu
      have qf := HK.out.mid.blk.frozen
      have hol := HK.out.mid.blk.lt
      have hNR := kidsL_len has (bs.take k) (i + 1)
      rw [List.length_take] at hNR
      have hsz := HK.out.mid.fr.size
      have HU := Lib.hid hu
      clear hu
      generalize hL : kidsL has (bs.take k) (i + 1) = L at *
      have HL := Lib.hid hL
      clear hL
      have HO := Lib.hid hown
      clear hown
      have hts : bs.take (k + 1) = bs.take k ++ [bs.getD k false] := by
        rw [List.take_succ_eq_append_getElem hlt, List.getD_eq_getElem?_getD, List.getElem?_eq_getElem hlt]; rfl
      have hds : bs = bs.take k ++ bs.getD k false :: bs.drop (k + 1) := by
        conv => lhs; rw [← List.take_append_drop k bs, List.drop_eq_getElem_cons hlt]
        rw [List.getD_eq_getElem?_getD, List.getElem?_eq_getElem hlt]; rfl
      have HTS := Lib.hid (And.intro hts hds)
      clear hts hds
      cases hx : bs.getD k false with
      | false =>
        rw [hx] at q1 hbk HTS
        clear hx hbk
        go_wp2_with (at_builtin; go_loud (refine wpList_append_lies _ rfl (.tmp 41) (.tmp 42) 22 rfl w.heap.size 3 i0 _ 1 8 Try.underlying22 hi0 hz0 hz1 hz2 rfl (by omega) _ L.length (L.map i64v) rfl (HO.out.alloc _) ⟨wr.heap.size, 0, none⟩ 1 1 [.int .i64 (-1)] rfl rfl (kd_news (Blk.new wr _ _)) (by simp [Value.oneCell']) (by omega) (by unfold maxLen; omega) (by omega) (by simp; omega) (wr.heap.size + 1) (by simp) ?_; intro g cap w3 hown' hgrow hat hgl; have hB3 := kd_grown (HK.out.mid.blk.alloc _) (HO.out.alloc _) hgrow (by decide); have c3 := (hB3.cell i).trans HU.out; have f3 := hB3.frozen; have l3 := hB3.lt))
        have hM := HK.out.mid
        rw [HL.out] at hM
        refine ⟨⟨k + 1, m, cs'.setIfInBounds i (.slice (some ⟨g, 0, none⟩) (L.length + 1) cap), by omega, hm, him, by go_num, rfl, Lib.hid ⟨?_, ?_⟩⟩, by simp [intOf]; omega⟩
        · rw [HTS.out.1, endsL_split, HK.out.ends]; rfl
        · rw [HTS.out.1, kidsL_snoc has _ _ _ _ HK.out.ends, HL.out]
          exact hM.put hi him HU.out HO.out hown' hgrow hat
      | true =>
        rw [hx] at q1 hbk HTS
        clear hx hbk
        have hM := HK.out.mid
        rw [HL.out] at hM
        have HM := Lib.hid hM
        clear hM
        go_wp2_with (at_builtin; go_loud (refine wpList_append_lies _ rfl (.tmp 50) (.tmp 52) 22 rfl w.heap.size 3 i0 _ 1 8 Try.underlying22 hi0 hz0 hz1 hz2 rfl (by omega) _ L.length (L.map i64v) rfl (HO.out.alloc _) ⟨wr.heap.size, 0, none⟩ 1 1 [.int .i64 m] rfl rfl (kd_news (Blk.new wr _ _)) (by simp [Value.oneCell']) (by omega) (by unfold maxLen; omega) (by omega) (by simp; omega) (wr.heap.size + 1) (by simp) ?_; intro g cap w3 hown' hgrow hat hgl; have hB3 := kd_grown (HK.out.mid.blk.alloc _) (HO.out.alloc _) hgrow (by decide); have c3 := (hB3.cell i).trans HU.out; have f3 := hB3.frozen; have l3 := hB3.lt))
        have hM := HM.out.put hi him HU.out HO.out hown' hgrow hat
        generalize w3.setCell ⟨ob, i, none⟩ (.slice (some ⟨g, 0, none⟩) (L.length + 1) cap) = w4 at *
        generalize cs'.setIfInBounds i (.slice (some ⟨g, 0, none⟩) (L.length + 1) cap) = cs4 at *
        have Bl4 : Below B w w4 := ⟨hM.fr.os, hM.fr.tape, hM.fr.output, hM.fr.size, fun j hj => hM.fr.block j (by omega) (by simp; omega)⟩
        refine (HI.out m (by omega) hm w4 ob cs4 (HS.out.below Bl4) hM.blk hM.size hB (fun j h1 h2 => by rw [hM.old j (by omega)]; exact HC.out j (by omega) h2)).mono ?_
        intro e w5 hp
        obtain ⟨f5, ⟨cs5, b5, s5, h5⟩, he⟩ := id hp
        have HP := Lib.hid hp
        have HM4 := Lib.hid hM
        clear hp hM hown' hgrow hat hB3 c3 f3 l3 Bl4 h5
        cases hem : ends has m with
        | none =>
          rw [hem] at he
          subst he
          have hei : ends has i = none := by
            rw [HE.out, HTS.out.2, endsL_split, HK.out.ends]
            show (ends has m).bind _ = none
            rw [hem]; rfl
          have HEI := Lib.hid hei
          clear hei hem
          go_wp2_with fail
          go_ret
          refine ⟨HM4.out.fr.trans (FrB.le f5 HM4.out.fr.size), ⟨cs5, b5, s5, fun r hr => by rw [HEI.out] at hr; cases hr⟩, by rw [HEI.out]; rfl⟩
        | some r =>
          rw [hem] at he
          subst he
          obtain ⟨cs6, hM6⟩ := HM4.out.call him HP.out hem
          have hr := ends_gt hem
          have HEM := Lib.hid hem
          have HM6 := Lib.hid hM6
          clear hem hM6 b5 s5 f5
          go_wp2_with fail
          refine ⟨⟨k + 1, r, cs6, by omega, by omega, by omega, by go_num, rfl, Lib.hid ⟨?_, ?_⟩⟩, by simp [intOf]; omega⟩
          · rw [HTS.out.1, endsL_split, HK.out.ends]
            show (ends has m).bind _ = _
            rw [HEM.out]; rfl
          · rw [HTS.out.1, kidsL_snoc has _ _ _ _ HK.out.ends, HL.out]
            exact HM6.out
end Go.Proofs.Ytjbelfbfhcmgeaa.Kp
