/- spec.Branches. -/
import Derived.Test.YtpnmgfiifaljjaaKid1
import Derived.Test.YtpnmgfiifaljjaaShape1
import Derived.Deep.RegionHeld3
import Derived.Deep.DrawnRows
namespace Go.Proofs.Ytpnmgfiifaljjaa.Kp
open Go.RowKit
attribute [local go_sem ↓] Go.wp_at_zero Go.wp_at_succ

/-- two flags in a block of their own. -/
def FlagAt (w : World) (u : Value) (a b : Bool) : Prop := ∃ g, u = .slice (some ⟨g, 0, none⟩) 2 2 ∧ Blk w g #[.bool a, .bool b] 4
theorem FlagAt.sl {w : World} {u : Value} {a b : Bool} (h : FlagAt w u a b) : SlC 1 bool1 w w.heap.size u [a, b] := by
  obtain ⟨g, rfl, hb⟩ := h
  refine ⟨⟨_, 2, rfl, .inr ⟨g, 0, rfl, by simp, hb.lt, hb.lt, fun i x hi j u hj => ?_⟩⟩⟩
  have hj0 : j = 0 := by
    have := (List.getElem?_eq_some_iff.1 hj).1
    simp [bool1] at this; exact this
  subst hj0
  rw [show (⟨g, 0 + i * 1 + 0, none⟩ : Addr) = ⟨g, i, none⟩ by simp, hb.cell i]
  rcases i with _ | _ | i
  · simp at hi; subst hi; simpa [bool1] using hj
  · simp at hi; subst hi; simpa [bool1] using hj
  · simp at hi
/-- the table of flags so far: a row of one's own. -/
structure Tab (B : Nat) (has : List (List Bool)) (v : Value) (w wr : World) : Prop where
  is : ∃ cells, wr.ownsRow B 79 1 v has.length cells ∧ ∀ (i : Nat) (bs : List Bool), has[i]? = some bs → ∃ u a b, cells[i]? = some u ∧ bs = [a, b] ∧ FlagAt wr u a b
  below : Below B w wr
theorem Tab.start (w : World) (B : Nat) : Tab B [] (.slice none 0 0) w w := ⟨⟨[], World.ownsRow_nil _ _ _ _, fun i bs h => by simp at h⟩, Below.refl _ _⟩
theorem FlagAt.blk {w w' : World} {u : Value} {a b : Bool} (h : FlagAt w u a b) (k : ∀ g cs, Blk w g cs 4 → Blk w' g cs 4) : FlagAt w' u a b := by
  obtain ⟨g, e, hb⟩ := h
  exact ⟨g, e, k _ _ hb⟩
theorem Tab.next {B : Nat} {has : List (List Bool)} {v v' : Value} {cells : List Value} {w wr w3 : World} {a b : Bool} {o : Obj} (hb : Below B w wr) (hB : B ≤ wr.heap.size) (hc : wr.ownsRow B 79 1 v has.length cells) (hr : ∀ (i : Nat) (bs : List Bool), has[i]? = some bs → ∃ u a b, cells[i]? = some u ∧ bs = [a, b] ∧ FlagAt wr u a b)
    (ho : w3.ownsRow B 79 1 v' (has.length + 1) (cells ++ [.slice (some ⟨wr.heap.size, 0, none⟩) 2 2])) (hg : ((wr.alloc (.cells #[.bool a, .bool b] 4)).alloc o).grownBy w3 v.ownBlock) : Tab B (has ++ [[a, b]]) v' w w3 := by
  have K : ∀ g cs, Blk (wr.alloc (.cells #[.bool a, .bool b] 4)) g cs 4 → Blk w3 g cs 4 := fun g cs h =>
    kd_grown (h.alloc o) ((hc.alloc _).alloc o) hg (by decide)
  have hcl : cells.length = has.length := by have := hc.1; omega
  refine ⟨⟨_, by simpa using ho, fun i bs hi => ?_⟩, ?_⟩
  · rcases Nat.lt_or_ge i has.length with h | h
    · rw [List.getElem?_append_left h] at hi
      obtain ⟨u, a', b', h1, h2, h3⟩ := hr i bs hi
      exact ⟨u, a', b', by rw [List.getElem?_append_left (by omega)]; exact h1, h2, h3.blk (fun g cs hx => K g cs (hx.alloc _))⟩
    · rw [List.getElem?_append_right h] at hi
      have e : i = has.length := by
        have := (List.getElem?_eq_some_iff.1 hi).1
        simp at this; omega
      subst e
      simp at hi
      subst hi
      exact ⟨_, a, b, by rw [List.getElem?_append_right (by omega), hcl]; simp, rfl, _, rfl, K _ _ (Blk.new _ _ _)⟩
  · exact ((hb.alloc hB _).alloc (by simp; omega) _).grown hg (by simp; omega) (fun g hg => (hc.lt g hg).1)
theorem Tab.ss {B : Nat} {has : List (List Bool)} {v : Value} {w wr : World} (h : Tab B has v w wr) : SS bool1 wr wr.heap.size v has := by
  obtain ⟨cells, h1, h2⟩ := h.is
  rcases h1.2 with ⟨e, h0⟩ | ⟨g, cap, cur, e, a1, a2, a3, a4, a5, a6⟩
  · have := List.length_eq_zero_iff.1 h0
    subst this
    exact ⟨⟨_, _, e, .inl rfl⟩⟩
  · have hb : Blk wr g cur 79 := a2
    refine ⟨⟨_, cap, e, .inr ⟨g, 0, rfl, a3, hb.lt, hb.lt, fun i xs hi => ?_⟩⟩⟩
    obtain ⟨u, a, b, c1, rfl, c3⟩ := h2 i xs hi
    refine ⟨u, ?_, c3.sl⟩
    have hil := (List.getElem?_eq_some_iff.1 hi).1
    rw [Nat.zero_add, hb.cell i]
    rw [← a6, List.getElem?_take_of_lt (by omega)] at c1
    simpa using c1
theorem Try.infoFlags : (Try.prog.info? 79).map (fun i => (i.zero, i.size, i.bytes)) = some (some (.slice none 0 0), 1, 24) := by kernel_rfl
theorem kd_news2 (w : World) (o : Obj) (cs : List Value) (T : TypeId) : ∀ j u, cs[j]? = some u → ((w.alloc o).alloc (.cells cs.toArray T)).drew.cell? ((⟨w.heap.size + 1, 0, none⟩ : Addr).add j) = some u := by
  have h := kd_news (Blk.drew (Blk.new (w.alloc o) cs.toArray T))
  rw [show (w.alloc o).heap.size = w.heap.size + 1 by simp] at h
  exact h
theorem kd_dr {B : Nat} {w w' : World} (h : Below B w w') : Below B w w'.drew := ⟨h.os, h.tape, h.output, h.size, h.block⟩
def hasB (l : List BrD) : List (List Bool) := has2 BrD.l BrD.r l
theorem hasB_len (l : List BrD) : (hasB l).length = l.length := by simp [hasB, has2]
set_option maxRecDepth 100000 in
set_option maxHeartbeats 3200000 in
theorem branches2_calls (l : List BrD) (hn : l.length ≤ 5000000000) (lv : Value) (w : World) (hs : SlC 5 brCells w w.heap.size lv l) :
    Calls Try.prog 31 #[lv] w (KidsPost (hasB l) w) := by
  obtain ⟨i0, hi0, hz0, hz1, hz2⟩ := info_parts Try.infoFlags
  obtain ⟨A, c, rfl⟩ := hs.form
  have HS := Lib.hid hs
  clear hs
  go_enter Try.func31, Try.ntmps31
  go_wp2_with fail
  go_loopw [4, 5] (fun v i wr => ∃ k : Nat, k ≤ l.length ∧ i = .int .i64 (k : Nat) ∧ Hid (Tab w.heap.size (hasB (l.take k)) v w wr)) (fun _ i _ => l.length - (intOf i).toNat)
  case atStart => exact ⟨0, Nat.zero_le _, rfl, Lib.hid (Tab.start _ _)⟩
  case round =>
    obtain ⟨k, hk, rfl, HK⟩ := hrel
    by_cases hlt : k < l.length
    · obtain ⟨b, off, a, rfl, g1, g3, g4, g5, z⟩ := HS.out.at_ hlt
      have HF := Lib.hid (show ∀ w' : World, Below w.heap.size w w' → w'.cell? ⟨b, off + k * 5 + 3, none⟩ = some (.bool a.l) ∧ w'.cell? ⟨b, off + k * 5 + 4, none⟩ = some (.bool a.r) from
        fun w' h => ⟨(h.cell (p := ⟨b, off + k * 5 + 3, none⟩) g3).trans (z 3 _ rfl), (h.cell (p := ⟨b, off + k * 5 + 4, none⟩) g3).trans (z 4 _ rfl)⟩)
      have BW := HK.out.below
      have B1 : Below w.heap.size w (wr.alloc (Obj.cells #[.bool a.l, .bool a.r] 4)) := BW.alloc BW.size _
      have HA := Lib.hid g5
      have hle := HK.out.below.size
      obtain ⟨cells, hown, hrows⟩ := HK.out.is
      obtain ⟨A4, c4, rfl⟩ := kd_form hown
      have hkl : (hasB (l.take k)).length = k := by rw [hasB_len, List.length_take]; omega
      rw [hkl] at hown ⊢
      have HO := Lib.hid hown
      have HR := Lib.hid hrows
      clear g5 z hown hrows hkl
      go_wp2_with fail
      go_region_held3 (fun w' => w'.cell? ⟨b, off + k * 5 + 3, none⟩ = some (.bool a.l) ∧ w'.cell? ⟨b, off + k * 5 + 4, none⟩ = some (.bool a.r))
        (first | exact HF.out _ BW | exact HF.out _ (kd_dr BW) | exact HF.out _ (kd_dr B1) | exact HF.out _ (kd_dr (B1.alloc B1.size _)) | exact HF.out _ ((kd_dr (B1.alloc B1.size _)).grown hgrow (by show w.heap.size ≤ ((wr.alloc _).alloc _).heap.size; simp; omega) (fun g hg => (HO.out.lt g hg).1)))
        ((refine step_append_lies _ (by rfl) (.tmp 12) (.tmp 24) 78 (by rfl) w.heap.size 79 i0 _ 1 24 Try.underlying78 hi0 hz0 hz1 hz2 rfl (by omega) (.slice A4 k c4) k cells (by rfl) (by exact ((HO.out.alloc _).alloc _).drew) _ 1 1 [.slice (some ⟨wr.heap.size, 0, none⟩) 2 2] (by rfl) (by rfl) (by exact kd_news2 wr _ _ _) (by simp [Value.oneCell']) (by omega) (by unfold maxLen; omega) (by omega) (by show w.heap.size ≤ ((wr.alloc _).alloc _).heap.size; simp; omega) _ (by rfl) ?_; intro gg cap w1 hown1 hgrow hat hlt1))
      go_wp2_with fail
      refine ⟨⟨k + 1, by omega, by go_num, Lib.hid ?_⟩, by simp [intOf]; omega⟩
      have e1 : hasB (l.take (k + 1)) = hasB (l.take k) ++ [[a.l, a.r]] := by
        have hg := (List.getElem?_eq_some_iff.1 HA.out).2
        rw [List.take_succ_eq_append_getElem hlt, hg]; simp [hasB, has2]
      have hkl : (hasB (l.take k)).length = k := by rw [hasB_len, List.length_take]; omega
      rw [e1]
      exact Tab.next BW BW.size (by rw [hkl]; exact HO.out) HR.out (by rw [hkl]; exact hown1) ⟨hgrow.os, hgrow.tape, hgrow.output, hgrow.size, hgrow.block⟩
    · have : k = l.length := by omega
      subst this
      have hT := HK.out
      rw [List.take_length] at hT
      obtain ⟨A4, c4, rfl⟩ := kd_form hT.is.choose_spec.1
      have HT := Lib.hid hT
      clear hT
      go_wp2_with fail
      refine (kids_calls (hasB l) (by rw [hasB_len]; omega) (fun bs hb => ?_) _ wr HT.out.ss).mono ?_
      · unfold hasB has2 at hb
        obtain ⟨x, _, rfl⟩ := List.mem_map.1 hb
        simp
      rintro e w2 ⟨hb2, v2, rfl, A5, c5, rfl, hv2⟩
      have H2 := Lib.hid (And.intro hb2 hv2)
      clear hb2 hv2
      go_wp2_with fail
      go_ret2
      exact ⟨HT.out.below.trans (H2.out.1.mono HT.out.below.size), _, rfl, _, _, rfl, H2.out.2⟩
end Go.Proofs.Ytpnmgfiifaljjaa.Kp
