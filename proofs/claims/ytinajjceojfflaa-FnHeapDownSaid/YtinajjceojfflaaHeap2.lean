/- heap.Heap: Size, Peek, Push, Pop. -/
import Derived.Test.YtinajjceojfflaaHeap1
import Derived.Deep.RegionHeld3
import Derived.Deep.DrawnRows
import Derived.Deep.AppendLies
import Derived.StillTailTactics
namespace Go.Proofs.Ytinajjceojfflaa
open Go.RowKit HeapP
attribute [local go_sem ↓] Go.wp_at_zero Go.wp_at_succ

theorem Try.infoInt : (Try.prog.info? 3).map (fun i => (i.zero, i.size, i.bytes)) = some (some (.int .i64 0), 1, 8) := by kernel_rfl
theorem news_one {W : World} {u : Value} {T : TypeId} : ∀ j x, [u][j]? = some x → (W.alloc (.cells #[u] T)).cell? ((⟨W.heap.size, 0, none⟩ : Addr).add j) = some x := by
  intro j x hj
  cases j with
  | zero => simp at hj; subst hj; exact (Blk.new W #[u] T).cell 0
  | succ j => simp at hj
theorem Blk.grown {W W' : World} {b : Nat} {cs : Array Value} {T : TypeId} {row : Option Nat} (h : Blk W b cs T) (hg : W.grownBy W' row) (hne : some b ≠ row) : Blk W' b cs T := by
  have hl := h.lt
  unfold Blk at h ⊢; rw [hg.block b hl hne]; exact h
/-- what is no row of ints, and no heap, stays. -/
structure Kp (w w' : World) : Prop where
  size : w.heap.size ≤ w'.heap.size
  block : ∀ b cs T, Blk w b cs T → T ≠ 3 → T ≠ 101 → Blk w' b cs T
theorem Kp.refl (w : World) : Kp w w := ⟨Nat.le_refl _, fun _ _ _ h _ _ => h⟩
theorem Kp.trans {w w1 w2 : World} (h : Kp w w1) (k : Kp w1 w2) : Kp w w2 := ⟨Nat.le_trans h.size k.size, fun b cs T hb h1 h2 => k.block b cs T (h.block b cs T hb h1 h2) h1 h2⟩
theorem Kp.fr {w w' : World} {S : List Nat} (h : Fr S w w') (hS : ∀ b ∈ S, ∃ cs T, Blk w b cs T ∧ (T = 3 ∨ T = 101)) : Kp w w' :=
  ⟨h.size, fun b cs T hb h1 h2 => hb.fr h (fun hx => by
    obtain ⟨cs', T', hb', hT⟩ := hS b hx
    have e : T' = T := by unfold Blk at hb hb'; rw [hb] at hb'; simp at hb'; exact hb'.2.symm
    subst e
    exact hT.elim h1 h2)⟩
theorem Kp.below {w w' : World} (h : Below w.heap.size w w') : Kp w w' := ⟨h.size, fun _ _ _ hb _ _ => hb.below h hb.lt⟩
/-- a heap, with its row. -/
structure HeapR (ts : List Int) (f : Value) (B hb : Nat) (w : World) (g cap : Nat) (xs : List Int) : Prop where
  blk : Blk w hb #[.slice (some ⟨g, 0, none⟩) xs.length cap, f] 101
  own : OwnI w B g cap xs
  less : LessOk w B f ts
  le : B ≤ hb
theorem HeapR.ne {ts : List Int} {f : Value} {B hb : Nat} {w : World} {g cap : Nat} {xs : List Int} (h : HeapR ts f B hb w g cap xs) : hb ≠ g := fun e => by
  obtain ⟨cur, h2, _⟩ := h.own.blk
  have h1 := h.blk
  subst e
  unfold Blk at h1 h2
  rw [h1] at h2
  simp at h2
theorem HeapR.ge {ts : List Int} {f : Value} {B hb : Nat} {w : World} {g cap : Nat} {xs : List Int} (h : HeapR ts f B hb w g cap xs) : B ≤ g := by
  obtain ⟨_, _, h1, _⟩ := h.own.blk; exact h1
theorem HeapR.lt {ts : List Int} {f : Value} {B hb : Nat} {w : World} {g cap : Nat} {xs : List Int} (h : HeapR ts f B hb w g cap xs) : g < w.heap.size := by
  obtain ⟨_, h2, _⟩ := h.own.blk; exact h2.lt
def HeapI (ts : List Int) (f : Value) (B hb : Nat) (w : World) (xs : List Int) : Prop := ∃ g cap, HeapR ts f B hb w g cap xs
theorem LessOk.fun_ {w : World} {B : Nat} {f : Value} {xs : List Int} (h : LessOk w B f xs) : ∃ fn fi ca, f = .func fn fi ca := by
  obtain ⟨_, _, rfl, _⟩ := h; exact ⟨_, _, _, rfl⟩
theorem heapSize_calls {ts : List Int} {f : Value} {B hb g cap : Nat} {xs : List Int} (w : World) (h : HeapR ts f B hb w g cap xs) :
    Calls Try.prog 74 #[.pointer (some ⟨hb, 0, none⟩)] w fun e w' => e = .returned (.int .i64 xs.length) ∧ w' = w := by
  have c0 : w.cell? ⟨hb, 0, none⟩ = some (.slice (some ⟨g, 0, none⟩) xs.length cap) := h.blk.cell 0
  clear h
  go_enter Try.func74, Try.ntmps74
  go_wp2
  go_ret
  exact ⟨rfl, rfl⟩
/-- what Peek tells. -/
def peekP (xs : List Int) : Int × Bool := if xs = [] then (0, false) else (getI xs 0, true)
set_option maxHeartbeats 800000 in
theorem peek_calls {ts : List Int} {f : Value} {B hb g cap : Nat} {xs : List Int} (w : World) (h : HeapR ts f B hb w g cap xs) (hn : xs.length ≤ 1000000000000) :
    Calls Try.prog 73 #[.pointer (some ⟨hb, 0, none⟩)] w fun e w' => e = .returned (.tuple #[.int .i64 (peekP xs).1, .bool (peekP xs).2]) ∧ w' = w := by
  have c0 : w.cell? ⟨hb, 0, none⟩ = some (.slice (some ⟨g, 0, none⟩) xs.length cap) := h.blk.cell 0
  have HS := Lib.hid (heapSize_calls w h)
  have HH := Lib.hid h
  clear h
  by_cases c : xs = []
  · subst c
    have e0 : (((0 : Nat) : Int) == 0) = true := by decide
    go_enter Try.func73, Try.ntmps73
    go_wp2_with fail
    refine HS.out.mono ?_
    rintro e w' ⟨rfl, rfl⟩
    go_wp2_with fail
    go_ret2
    exact ⟨rfl, rfl⟩
  · have hl : 0 < xs.length := List.length_pos_iff.2 c
    have x0 := HH.out.own.cell hl
    have p0 : ((xs.length : Int) == 0) = false := by simp; omega
    have p1 : (0 : Int) < (xs.length : Int) := by omega
    have E := Lib.hid (show peekP xs = (getI xs 0, true) from if_neg c)
    clear c hl
    go_enter Try.func73, Try.ntmps73
    go_wp2_with fail
    refine HS.out.mono ?_
    rintro e w' ⟨rfl, rfl⟩
    go_wp2_with fail
    go_ret2
    exact ⟨by rw [E.out]; rfl, rfl⟩
theorem OwnI.of {w : World} {B n : Nat} {v : Value} {xs : List Int} (h : w.ownsRow B 3 1 v n (xs.map i64v)) (hn : xs.length = n) (h0 : 0 < n) : ∃ g cap, v = .slice (some ⟨g, 0, none⟩) xs.length cap ∧ OwnI w B g cap xs := by
  subst hn
  rcases h.2 with ⟨_, e⟩ | ⟨g, cap, cur, e, h1, h2, h3, h4, h5, h6⟩
  · omega
  · subst e
    exact ⟨g, cap, rfl, h⟩
theorem OwnI.snoc {w : World} {B : Nat} {v : Value} {xs : List Int} {x : Int} (h : w.ownsRow B 3 1 v (xs.length + 1) (xs.map i64v ++ [.int .i64 x])) : ∃ g cap, v = .slice (some ⟨g, 0, none⟩) (xs.length + 1) cap ∧ OwnI w B g cap (xs ++ [x]) := by
  have e : xs.map i64v ++ [.int .i64 x] = (xs ++ [x]).map i64v := by simp
  rw [e] at h
  obtain ⟨g, cap, e1, h1⟩ := OwnI.of h (by simp) (by omega)
  rw [List.length_append, List.length_singleton] at e1
  exact ⟨g, cap, e1, h1⟩
/-- what Push makes of a heap. -/
def pushP (ts : List Int) (xs : List Int) (x : Int) : List Int := upP (rankOf ts) xs.length (xs ++ [x]) xs.length
set_option maxRecDepth 100000 in
set_option maxHeartbeats 1600000 in
theorem push_calls {ts : List Int} {f : Value} {B hb g cap : Nat} {xs : List Int} (x : Int) (w : World) (h : HeapR ts f B hb w g cap xs) (hn : xs.length ≤ 100000000000) :
    Calls Try.prog 69 #[.pointer (some ⟨hb, 0, none⟩), .int .i64 x] w fun e w' => e = .returned (.tuple #[]) ∧ HeapI ts f B hb w' (pushP ts xs x) ∧ Below B w w' ∧ Kp w w' := by
  obtain ⟨i0, hi0, hz0, hz1, hz2⟩ := info_parts Try.infoInt
  have c0 : w.cell? ⟨hb, 0, none⟩ = some (.slice (some ⟨g, 0, none⟩) xs.length cap) := h.blk.cell 0
  have cf : w.frozen? ⟨hb, 0, none⟩ = false := h.blk.frozen 0
  have hlt := h.lt
  have hge := h.ge
  have hbl := h.blk.lt
  have hne := h.ne
  have HH := Lib.hid h
  clear h
  have cg : (w.alloc (Obj.cells #[.int .i64 x] 3)).frozen? ⟨hb, 0, none⟩ = false := (HH.out.blk.alloc _).frozen 0
  go_enter Try.func69, Try.ntmps69
  go_wp2_with (at_builtin; refine wpList_append_own _ rfl (.tmp 8) (.tmp 10) 22 rfl B 3 i0 _ 1 8 Try.underlying22 hi0 hz0 hz1 hz2 rfl (by omega) _ xs.length (xs.map i64v) rfl (by exact HH.out.own.alloc _) ⟨w.heap.size, 0, none⟩ 1 1 [.int .i64 x] rfl rfl (news_one (W := w)) (by simp [Value.oneCell']) (by unfold maxLen; omega) (by omega) (by simp; omega) ?_; intro v1 w1 hown1 hgrow1 _; have k1 : Blk w1 hb _ _ := (HH.out.blk.alloc _).grown hgrow1 (fun e => hne (Option.some.inj e)); have kf := k1.frozen 0; have kc : w1.cell? ⟨hb, 0, none⟩ = some (.slice (some ⟨g, 0, none⟩) xs.length cap) := k1.cell 0; obtain ⟨g2, cap2, rfl, o2⟩ := OwnI.snoc hown1)
  have b1 : Below B w w1 := (((Below.refl _ w).alloc (by omega) _)).grown hgrow1 (by simp; omega) (fun k hk => (HH.out.own.lt k hk).1)
  have f1 : Fr [g] w w1 := ⟨hgrow1.os, hgrow1.tape, hgrow1.output, Nat.le_trans (by simp) hgrow1.size, fun k hk hn => (hgrow1.block k (by simp; omega) (fun e => hn (by rw [Option.some.inj e]; exact List.mem_singleton.2 rfl))).trans (Below.heap_alloc _ _ _ hk)⟩
  have hne2 : hb ≠ g2 := fun e => by
    obtain ⟨cur, h2, _⟩ := o2.blk
    subst e
    unfold Blk at k1 h2
    rw [k1] at h2
    simp at h2
  have k2 : Blk (w1.setCell ⟨hb, 0, none⟩ (.slice (some ⟨g2, 0, none⟩) (xs.length + 1) cap2)) hb #[.slice (some ⟨g2, 0, none⟩) (xs.length + 1) cap2, f] 101 := k1.set 0 _
  have f2 : Fr [g, hb] w (w1.setCell ⟨hb, 0, none⟩ (.slice (some ⟨g2, 0, none⟩) (xs.length + 1) cap2)) := f1.trans (Fr.setCell (S := [hb]) w1 hb 0 _ (by simp)) (by simp) (by simp)
  have o3 : OwnI (w1.setCell ⟨hb, 0, none⟩ (.slice (some ⟨g2, 0, none⟩) (xs.length + 1) cap2)) B g2 cap2 (xs ++ [x]) := o2.fr (Fr.setCell (S := [hb]) w1 hb 0 _ (by simp)) (by simpa using fun e => hne2 e.symm)
  have l3 : LessOk (w1.setCell ⟨hb, 0, none⟩ (.slice (some ⟨g2, 0, none⟩) (xs.length + 1) cap2)) B f ts := HH.out.less.fr f2 (by simp; exact ⟨hge, HH.out.le⟩) (by omega)
  generalize w1.setCell ⟨hb, 0, none⟩ (.slice (some ⟨g2, 0, none⟩) (xs.length + 1) cap2) = w3 at *
  have HK := Lib.hid (And.intro k2 (And.intro o3 (And.intro l3 f2)))
  have hge2 : B ≤ g2 := by obtain ⟨_, _, h1, _⟩ := o3.blk; exact h1
  have HU := Lib.hid (up_calls ts f B B g2 cap2 (xs ++ [x]) xs.length w3.drew (HK.out.2.2.1.below (Below.drewN _ 1)) hge2 (o3.drewN 1) (by simp; omega) (by simp))
  rw [List.length_append, List.length_singleton] at HU
  obtain ⟨fn, fi, ca, rfl⟩ := HH.out.less.fun_
  have e2 : (xs.length : Int) + 1 - 1 = (xs.length : Int) := by omega
  have e3 : IntKind.i64.wrap (xs.length : Int) = (xs.length : Int) := IntWalk.i64_in _ (by omega)
  clear b1 f1 k1 k2 f2 o3 l3 o2 kf kc hown1 hgrow1 cg cf c0
  go_region_held3 (fun w' => w'.cell? ⟨hb, 0, none⟩ = some (.slice (some ⟨g2, 0, none⟩) (xs.length + 1) cap2) ∧ w'.cell? ⟨hb, 1, none⟩ = some (.func fn fi ca))
    (first | exact ⟨HK.out.1.cell 0, HK.out.1.cell 1⟩ | exact ⟨(HK.out.1.fr (S := [g2]) (w' := w4) ((Fr.drewN _ w3 1).comp hfr) (by simpa using hne2)).cell 0, (HK.out.1.fr (S := [g2]) (w' := w4) ((Fr.drewN _ w3 1).comp hfr) (by simpa using hne2)).cell 1⟩)
    ((go_at_call 99; refine HU.out.mono ?_; rintro e w4 ⟨rfl, ho4, hfr⟩))
  go_end0
  have hf4 : Fr [g2] w3 w4 := (Fr.drewN [g2] w3 1).comp hfr
  obtain ⟨q1, q2, q3, q4⟩ := HK.out
  have hlen : (pushP ts xs x).length = xs.length + 1 := by unfold pushP; rw [upP_len]; simp
  have hsz := q4.size
  have hb3 : Below B w w3 := q4.below (by simp; exact ⟨hge, HH.out.le⟩) (by omega)
  refine ⟨rfl, ⟨g2, cap2, ?_, ho4, q3.fr hf4 (by simpa using hge2) (by have := q1.lt; have := HH.out.le; omega), HH.out.le⟩, hb3.trans (hf4.below (by simpa using hge2) (by have := q1.lt; have := HH.out.le; omega)), ?_⟩
  · rw [hlen]; exact q1.fr hf4 (by simpa using hne2)
  · obtain ⟨cur, h2, _⟩ := HH.out.own.blk
    obtain ⟨cur2, h3, _⟩ := q2.blk
    exact (Kp.fr q4 (by
      intro b hb
      simp at hb
      rcases hb with rfl | rfl
      · exact ⟨_, _, h2, .inl rfl⟩
      · exact ⟨_, _, HH.out.blk, .inr rfl⟩)).trans (Kp.fr hf4 (by
      intro b hb
      simp at hb
      subst hb
      exact ⟨_, _, h3, .inl rfl⟩))
/-- what Pop makes of a heap that is not empty. -/
def popP (ts : List Int) (xs : List Int) : List Int := downP (rankOf ts) (xs.length - 1) ((xs.set 0 (getI xs (xs.length - 1))).take (xs.length - 1)) 0
theorem OwnI.take {w : World} {B g cap : Nat} {xs : List Int} (h : OwnI w B g cap xs) (n : Nat) (hn : n ≤ xs.length) : OwnI w B g cap (xs.take n) := by
  obtain ⟨cur, h2, h1, h3, h4, h5, h6⟩ := h.blk
  have hl : (xs.take n).length = n := by rw [List.length_take]; omega
  refine OwnI.mk h2 h1 (by omega) h4 h5 ?_
  rw [hl, List.map_take, ← h6, List.take_take]
  congr 1; omega
set_option maxRecDepth 100000 in
set_option maxHeartbeats 1600000 in
theorem pop_calls {ts : List Int} {f : Value} {B hb g cap : Nat} {xs : List Int} (w : World) (h : HeapR ts f B hb w g cap xs) (hn : xs.length ≤ 100000000000) :
    Calls Try.prog 72 #[.pointer (some ⟨hb, 0, none⟩)] w fun e w' => e = .returned (.tuple #[.int .i64 (peekP xs).1, .bool (peekP xs).2]) ∧ HeapI ts f B hb w' (if xs = [] then xs else popP ts xs) ∧ Below B w w' ∧ Kp w w' := by
  have c0 : w.cell? ⟨hb, 0, none⟩ = some (.slice (some ⟨g, 0, none⟩) xs.length cap) := h.blk.cell 0
  have HS := Lib.hid (heapSize_calls w h)
  have HH := Lib.hid h
  clear h
  by_cases c : xs = []
  · subst c
    have e0 : (((0 : Nat) : Int) == 0) = true := by decide
    go_enter Try.func72, Try.ntmps72
    go_wp2_with fail
    refine HS.out.mono ?_
    rintro e w' ⟨rfl, rfl⟩
    go_wp2_with fail
    go_ret2
    exact ⟨rfl, ⟨g, cap, HH.out⟩, Below.refl _ _, Kp.refl _⟩
  · have hl : 0 < xs.length := List.length_pos_iff.2 c
    have x0 := HH.out.own.cell hl
    have xn := HH.out.own.cell (i := xs.length - 1) (by omega)
    have fz := fun a => HH.out.own.frozen a
    have cf : w.frozen? ⟨hb, 0, none⟩ = false := HH.out.blk.frozen 0
    have p0 : ((xs.length : Int) == 0) = false := by simp; omega
    have p1 : (0 : Int) < (xs.length : Int) := by omega
    have p2 : (xs.length : Int) - 1 = ((xs.length - 1 : Nat) : Int) := by omega
    have p3 : ((xs.length - 1 : Nat) : Int) < (xs.length : Int) := by omega
    have p4 : (0 : Int) ≤ ((xs.length - 1 : Nat) : Int) := by omega
    have p5 : ((xs.length - 1 : Nat) : Int) ≤ (cap : Int) := by obtain ⟨_, _, _, h3, _⟩ := HH.out.own.blk; omega
    have p6 : IntKind.i64.wrap ((xs.length - 1 : Nat) : Int) = ((xs.length - 1 : Nat) : Int) := IntWalk.i64_in _ (by omega)
    have E := Lib.hid (show peekP xs = (getI xs 0, true) from if_neg c)
    have HL := Lib.hid hl
    have HC := Lib.hid c
    clear c hl
    go_enter Try.func72, Try.ntmps72
    go_wp2_with fail
    refine HS.out.mono ?_
    rintro e w' ⟨rfl, rfl⟩
    go_wp2_with fail
    go_still_tail 16, (by kernel_rfl)
    change wpList _ _ _ _ _ (w'.drewN 1)
    go_wp2_with fail
    have hge := HH.out.ge
    have hglt := HH.out.lt
    have hle := HH.out.le
    have hbl := HH.out.blk.lt
    have hne := HH.out.ne
    have o1 : OwnI ((w'.drewN 1).setCell ⟨g, 0, none⟩ (.int .i64 (getI xs (xs.length - 1)))) B g cap (xs.set 0 (getI xs (xs.length - 1))) := (HH.out.own.drewN 1).set HL.out _
    have f1 : Fr [g, hb] w' ((w'.drewN 1).setCell ⟨g, 0, none⟩ (.int .i64 (getI xs (xs.length - 1)))) := (Fr.drewN _ w' 1).comp (Fr.setCell _ g 0 _ (by simp))
    have k1 : Blk ((w'.drewN 1).setCell ⟨g, 0, none⟩ (.int .i64 (getI xs (xs.length - 1)))) hb #[.slice (some ⟨g, 0, none⟩) xs.length cap, f] 101 := Blk.far (w := w'.drewN 1) (HH.out.blk.drewN 1) hne
    clear fz cf x0 xn c0
    generalize (w'.drewN 1).setCell ⟨g, 0, none⟩ (.int .i64 (getI xs (xs.length - 1))) = w1 at *
    have c0 : w1.cell? ⟨hb, 0, none⟩ = some (.slice (some ⟨g, 0, none⟩) xs.length cap) := k1.cell 0
    have cf : w1.frozen? ⟨hb, 0, none⟩ = false := k1.frozen 0
    go_still_tail 12, (by kernel_rfl)
    change wpList _ _ _ _ _ (w1.drewN 1)
    go_wp2_with fail
    have o2 : OwnI ((w1.drewN 1).setCell ⟨hb, 0, none⟩ (.slice (some ⟨g, 0, none⟩) (xs.length - 1) cap)) B g cap ((xs.set 0 (getI xs (xs.length - 1))).take (xs.length - 1)) := ((o1.drewN 1).fr (Fr.setCell (S := [hb]) _ hb 0 _ (by simp)) (by simpa using fun e => hne e.symm)).take _ (by simp)
    have f2 : Fr [g, hb] w' ((w1.drewN 1).setCell ⟨hb, 0, none⟩ (.slice (some ⟨g, 0, none⟩) (xs.length - 1) cap)) := f1.comp ((Fr.drewN _ w1 1).comp (Fr.setCell _ hb 0 _ (by simp)))
    have k2 : Blk ((w1.drewN 1).setCell ⟨hb, 0, none⟩ (.slice (some ⟨g, 0, none⟩) (xs.length - 1) cap)) hb #[.slice (some ⟨g, 0, none⟩) (xs.length - 1) cap, f] 101 := Blk.set (w := w1.drewN 1) (k1.drewN 1) 0 _
    clear c0 cf o1 f1 k1
    generalize (w1.drewN 1).setCell ⟨hb, 0, none⟩ (.slice (some ⟨g, 0, none⟩) (xs.length - 1) cap) = w2 at *
    have l2 : LessOk w2 B f ts := HH.out.less.fr f2 (by simp; exact ⟨hge, hle⟩) (by omega)
    have hlen : ((xs.set 0 (getI xs (xs.length - 1))).take (xs.length - 1)).length = xs.length - 1 := by simp
    have HD := Lib.hid (down_calls ts f B B g cap _ 0 (w2.drewN 1) (l2.below (Below.drewN _ 1)) hge (o2.drewN 1) (by rw [hlen]; omega) (by omega))
    rw [hlen] at HD
    obtain ⟨fn, fi, ca, rfl⟩ := HH.out.less.fun_
    have c0 : w2.cell? ⟨hb, 0, none⟩ = some (.slice (some ⟨g, 0, none⟩) (xs.length - 1) cap) := k2.cell 0
    have c1 : w2.cell? ⟨hb, 1, none⟩ = some (.func fn fi ca) := k2.cell 1
    go_still_tail 8, (by kernel_rfl)
    change wpList _ _ _ _ _ (w2.drewN 1)
    go_wp2_with fail
    refine HD.out.mono ?_
    rintro e w3 ⟨rfl, o3, f3⟩
    go_wp2_with fail
    go_ret2
    have f4 : Fr [g] w2 w3 := (Fr.drewN [g] w2 1).comp f3
    have hsz := f2.size
    have e3 : (downP (rankOf ts) (xs.length - 1) ((xs.set 0 (getI xs (xs.length - 1))).take (xs.length - 1)) 0).length = xs.length - 1 := by rw [downP_len, hlen]
    have hR : HeapI ts (.func fn fi ca) B hb w3 (popP ts xs) := ⟨g, cap, by unfold popP; rw [e3]; exact k2.fr f4 (by simpa using hne), o3, l2.fr f4 (by simpa using hge) (by omega), hle⟩
    refine ⟨by rw [E.out]; rfl, hR, (f2.below (by simp; exact ⟨hge, hle⟩) (by omega)).trans (f4.below (by simpa using hge) (by omega)), ?_⟩
    · obtain ⟨cur, h2, _⟩ := HH.out.own.blk
      obtain ⟨cur2, h3, _⟩ := o2.blk
      exact (Kp.fr f2 (by
        intro b hb
        simp at hb
        rcases hb with rfl | rfl
        · exact ⟨_, _, h2, .inl rfl⟩
        · exact ⟨_, _, HH.out.blk, .inr rfl⟩)).trans (Kp.fr f4 (by
        intro b hb
        simp at hb
        subst hb
        exact ⟨_, _, h3, .inl rfl⟩))
end Go.Proofs.Ytinajjceojfflaa
