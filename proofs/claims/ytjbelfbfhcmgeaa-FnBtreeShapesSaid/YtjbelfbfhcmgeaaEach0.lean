/- 'x.Keys, x.Vals = append(x.Keys, key), append(x.Vals, val)': the function that a walk over all entries is given. -/
import Derived.Test.YtjbelfbfhcmgeaaOrd
import Derived.Test.YtjbelfbfhcmgeaaFrB
import Derived.Deep.RegionLaw
import Derived.Deep.RegionHeld3
import Derived.Deep.AppendLies
import Derived.WalkSpells
namespace Go.Proofs.Ytjbelfbfhcmgeaa
open Go.RowKit

theorem Try.info3 : (Try.prog.info? 3).map (fun i => (i.zero, i.size, i.bytes)) = some (some (.int .i64 0), 1, 8) := by kernel_rfl
/-- what a step tells: a number, a bool, keys and values; xb the block. -/
structure Tell (w : World) (base xb : Nat) (n : Int) (b : Bool) (ks vs : List Int) (ka : Option Addr) (kc : Nat) (va : Option Addr) (vc : Nat) : Prop where
  blk : Blk w xb #[.int .i64 n, .bool b, .slice ka ks.length kc, .slice va vs.length vc] 50
  keys : w.ownsRow base 3 1 (.slice ka ks.length kc) ks.length (ks.map i64v)
  vals : w.ownsRow base 3 1 (.slice va vs.length vc) vs.length (vs.map i64v)
  lt : xb < base
  le : base ≤ w.heap.size
  apart : (Value.slice ka ks.length kc).ownBlock = none ∨ (Value.slice ka ks.length kc).ownBlock ≠ (Value.slice va vs.length vc).ownBlock
/-- ahead of the first append. -/
structure Put1 (w : World) (base xb : Nat) (n : Int) (b : Bool) (ks vs : List Int) (ka va : Option Addr) (kc vc : Nat) (W : World) : Prop where
  hk : W.ownsRow base 3 1 (.slice ka ks.length kc) ks.length (ks.map i64v)
  hv : W.ownsRow base 3 1 (.slice va vs.length vc) vs.length (vs.map i64v)
  hb : Blk W xb #[.int .i64 n, .bool b, .slice ka ks.length kc, .slice va vs.length vc] 50
  fr : FrB base [xb] w W
  le : base ≤ W.heap.size
  lt : xb < base
  ap : (Value.slice ka ks.length kc).ownBlock = none ∨ (Value.slice ka ks.length kc).ownBlock ≠ (Value.slice va vs.length vc).ownBlock
theorem Put1.alloc {w W : World} {base xb : Nat} {n : Int} {b : Bool} {ks vs : List Int} {ka va : Option Addr} {kc vc : Nat} (h : Put1 w base xb n b ks vs ka va kc vc W) (o : Obj) : Put1 w base xb n b ks vs ka va kc vc (W.alloc o) :=
  ⟨h.hk.alloc _, h.hv.alloc _, h.hb.alloc _, h.fr.alloc h.le _, by have := h.le; simp; omega, h.lt, h.ap⟩
theorem Put1.drew {w W : World} {base xb : Nat} {n : Int} {b : Bool} {ks vs : List Int} {ka va : Option Addr} {kc vc : Nat} (h : Put1 w base xb n b ks vs ka va kc vc W) : Put1 w base xb n b ks vs ka va kc vc W.drew :=
  ⟨h.hk.drew, h.hv.drew, h.hb.drew, h.fr.drew, h.le, h.lt, h.ap⟩
/-- between the two appends; gg the keys' block. -/
structure Put2 (w : World) (base xb : Nat) (n : Int) (b : Bool) (ks vs : List Int) (k : Int) (ka va : Option Addr) (kc vc gg cap : Nat) (W : World) : Prop where
  hk : W.ownsRow base 3 1 (.slice (some ⟨gg, 0, none⟩) (ks.length + 1) cap) (ks.length + 1) (ks.map i64v ++ [.int .i64 k])
  hv : W.ownsRow base 3 1 (.slice va vs.length vc) vs.length (vs.map i64v)
  hb : Blk W xb #[.int .i64 n, .bool b, .slice ka ks.length kc, .slice va vs.length vc] 50
  fr : FrB base [xb] w W
  le : base ≤ W.heap.size
  lt : xb < base
  ap : (Value.slice va vs.length vc).ownBlock ≠ some gg
  gl : gg < W.heap.size
theorem Put2.alloc {w W : World} {base xb : Nat} {n : Int} {b : Bool} {ks vs : List Int} {k : Int} {ka va : Option Addr} {kc vc gg cap : Nat} (h : Put2 w base xb n b ks vs k ka va kc vc gg cap W) (o : Obj) : Put2 w base xb n b ks vs k ka va kc vc gg cap (W.alloc o) :=
  ⟨h.hk.alloc _, h.hv.alloc _, h.hb.alloc _, h.fr.alloc h.le _, by have := h.le; simp; omega, h.lt, h.ap, by have := h.gl; simp; omega⟩
theorem Put2.c3 {w W : World} {base xb : Nat} {n : Int} {b : Bool} {ks vs : List Int} {k : Int} {ka va : Option Addr} {kc vc gg cap : Nat} (h : Put2 w base xb n b ks vs k ka va kc vc gg cap W) : W.cell? ⟨xb, 3, none⟩ = some (.slice va vs.length vc) ∧ xb < W.heap.size := ⟨h.hb.cell 3, h.hb.lt⟩
theorem put_one {w W w1 : World} {base xb : Nat} {n : Int} {b : Bool} {ks vs : List Int} {k : Int} {ka va : Option Addr} {kc vc gg cap : Nat} (h : Put1 w base xb n b ks vs ka va kc vc W)
    (ho : w1.ownsRow base 3 1 (.slice (some ⟨gg, 0, none⟩) (ks.length + 1) cap) (ks.length + 1) (ks.map i64v ++ [.int .i64 k])) (hg : W.grownBy w1 (Value.slice ka ks.length kc).ownBlock)
    (hat : (Value.slice ka ks.length kc).ownBlock = some gg ∨ gg = W.heap.size) (hl : gg < w1.heap.size) : Put2 w base xb n b ks vs k ka va kc vc gg cap w1 := by
  have hap' : (Value.slice va vs.length vc).ownBlock = none ∨ (Value.slice va vs.length vc).ownBlock ≠ (Value.slice ka ks.length kc).ownBlock := by
    rcases h.ap with h | h
    · rw [h]; cases (Value.slice va vs.length vc).ownBlock <;> simp
    · exact .inr (Ne.symm h)
  have nk : some xb ≠ (Value.slice ka ks.length kc).ownBlock := fun e => by have := (h.hk.lt _ e.symm).1; have := h.lt; omega
  refine ⟨ho, h.hv.kept hg hap', h.hb.grown hg nk, h.fr.grown hg h.le (fun g e => (h.hk.lt g e).1), Nat.le_trans h.le hg.size, h.lt, fun e => ?_, hl⟩
  rcases hat with h1 | h1
  · rcases hap' with h2 | h2
    · rw [h2] at e; cases e
    · exact h2 (e.trans h1.symm)
  · have := (h.hv.lt _ e).2; omega
theorem put_mem {W w1 : World} {base : Nat} {ks : List Int} {ka : Option Addr} {kc : Nat} (_hk : W.ownsRow base 3 1 (.slice ka ks.length kc) ks.length (ks.map i64v)) (hg : W.grownBy w1 (Value.slice ka ks.length kc).ownBlock) {w0 : World} (h0 : w0.ownsRow base 3 1 (.slice ka ks.length kc) ks.length (ks.map i64v)) :
    ∀ g x, w0.heap.size ≤ g → W.cell? ⟨g, 0, none⟩ = some x → w1.cell? ⟨g, 0, none⟩ = some x :=
  fun g x hle hx => hg.cell hx (fun e => by have := (h0.lt g e.symm).2; omega)
/-- behind both. -/
structure Put3 (w : World) (base xb : Nat) (n : Int) (b : Bool) (ks vs : List Int) (k v : Int) (ka va : Option Addr) (kc vc gg cap gv capv : Nat) (W : World) : Prop where
  hk : W.ownsRow base 3 1 (.slice (some ⟨gg, 0, none⟩) (ks.length + 1) cap) (ks.length + 1) (ks.map i64v ++ [.int .i64 k])
  hv : W.ownsRow base 3 1 (.slice (some ⟨gv, 0, none⟩) (vs.length + 1) capv) (vs.length + 1) (vs.map i64v ++ [.int .i64 v])
  hb : Blk W xb #[.int .i64 n, .bool b, .slice ka ks.length kc, .slice va vs.length vc] 50
  fr : FrB base [xb] w W
  le : base ≤ W.heap.size
  lt : xb < base
  ne : gg ≠ gv
theorem Put3.cells {w W : World} {base xb : Nat} {n : Int} {b : Bool} {ks vs : List Int} {k v : Int} {ka va : Option Addr} {kc vc gg cap gv capv : Nat} (h : Put3 w base xb n b ks vs k v ka va kc vc gg cap gv capv W) :
    W.cell? ⟨xb, 2, none⟩ = some (.slice ka ks.length kc) ∧ W.cell? ⟨xb, 3, none⟩ = some (.slice va vs.length vc) ∧ (∀ i, W.frozen? ⟨xb, i, none⟩ = false) := ⟨h.hb.cell 2, h.hb.cell 3, h.hb.frozen⟩
theorem put_two {w W w2 : World} {base xb : Nat} {n : Int} {b : Bool} {ks vs : List Int} {k v : Int} {ka va : Option Addr} {kc vc gg cap gv capv : Nat} (h : Put2 w base xb n b ks vs k ka va kc vc gg cap W)
    (ho : w2.ownsRow base 3 1 (.slice (some ⟨gv, 0, none⟩) (vs.length + 1) capv) (vs.length + 1) (vs.map i64v ++ [.int .i64 v])) (hg : W.grownBy w2 (Value.slice va vs.length vc).ownBlock)
    (hat : (Value.slice va vs.length vc).ownBlock = some gv ∨ gv = W.heap.size) : Put3 w base xb n b ks vs k v ka va kc vc gg cap gv capv w2 := by
  have nv : some xb ≠ (Value.slice va vs.length vc).ownBlock := fun e => by have := (h.hv.lt _ e.symm).1; have := h.lt; omega
  refine ⟨h.hk.kept hg (.inr h.ap.symm), ho, h.hb.grown hg nv, h.fr.grown hg h.le (fun g e => (h.hv.lt g e).1), Nat.le_trans h.le hg.size, h.lt, fun e => ?_⟩
  subst e
  rcases hat with h1 | h1
  · exact h.ap h1
  · have := h.gl; omega
theorem put_done {w w2 : World} {base xb : Nat} {n : Int} {b : Bool} {ks vs : List Int} {k v : Int} {ka va : Option Addr} {kc vc gg cap gv capv : Nat} (h : Put3 w base xb n b ks vs k v ka va kc vc gg cap gv capv w2) :
    (∃ ka' kc' va' vc', Tell ((w2.setCell ⟨xb, 2, none⟩ (.slice (some ⟨gg, 0, none⟩) (ks.length + 1) cap)).setCell ⟨xb, 3, none⟩ (.slice (some ⟨gv, 0, none⟩) (vs.length + 1) capv)) base xb n b (ks ++ [k]) (vs ++ [v]) ka' kc' va' vc') ∧
      FrB base [xb] w ((w2.setCell ⟨xb, 2, none⟩ (.slice (some ⟨gg, 0, none⟩) (ks.length + 1) cap)).setCell ⟨xb, 3, none⟩ (.slice (some ⟨gv, 0, none⟩) (vs.length + 1) capv)) := by
  have hF3 : FrB base [xb] w2 ((w2.setCell ⟨xb, 2, none⟩ (.slice (some ⟨gg, 0, none⟩) (ks.length + 1) cap)).setCell ⟨xb, 3, none⟩ (.slice (some ⟨gv, 0, none⟩) (vs.length + 1) capv)) :=
    (FrB.setCell _ xb 2 _ (by simp)).trans (FrB.setCell _ xb 3 _ (by simp))
  have own : ∀ {u : Value} {m : Nat} {ys : List Value}, w2.ownsRow base 3 1 u m ys → ((w2.setCell ⟨xb, 2, none⟩ (.slice (some ⟨gg, 0, none⟩) (ks.length + 1) cap)).setCell ⟨xb, 3, none⟩ (.slice (some ⟨gv, 0, none⟩) (vs.length + 1) capv)).ownsRow base 3 1 u m ys := by
    intro u m ys hu
    refine hu.kept (row := some xb) ⟨rfl, rfl, rfl, hF3.size, fun i hi hn => ?_⟩ ?_
    · rw [Below.heap_setCell _ _ _ _ (fun e => hn (by rw [e])), Below.heap_setCell _ _ _ _ (fun e => hn (by rw [e]))]
    · cases hx : u.ownBlock with
      | none => exact .inl rfl
      | some g => exact .inr (fun e => by have := (hu.lt g hx).1; have := h.lt; cases e; omega)
  refine ⟨⟨some ⟨gg, 0, none⟩, cap, some ⟨gv, 0, none⟩, capv, ?_, ?_, ?_, h.lt, Nat.le_trans h.le hF3.size, .inr ?_⟩, h.fr.trans hF3⟩
  · rw [List.length_append, List.length_append]
    exact (h.hb.set 2 _).set 3 _
  · rw [List.length_append, List.map_append]; exact own h.hk
  · rw [List.length_append, List.map_append]; exact own h.hv
  · simp [Value.ownBlock, h.ne]
set_option maxRecDepth 100000 in
set_option maxHeartbeats 3200000 in
theorem put_calls (base xb : Nat) (n : Int) (b : Bool) (ks vs : List Int) (ka va : Option Addr) (kc vc : Nat) (k v : Int) (w : World) (h : Tell w base xb n b ks vs ka kc va vc) (hk : ks.length ≤ 100000000000) (hv : vs.length ≤ 100000000000) :
    Calls Try.prog 54 #[.int .i64 k, .int .i64 v, .pointer (some ⟨xb, 0, none⟩)] w fun e w' => e = .returned (.tuple #[]) ∧ (∃ ka' kc' va' vc', Tell w' base xb n b (ks ++ [k]) (vs ++ [v]) ka' kc' va' vc') ∧ FrB base [xb] w w' := by
  obtain ⟨i0, hi0, hz0, hz1, hz2⟩ := info_parts Try.info3
  have p0 : Put1 w base xb n b ks vs ka va kc vc w := ⟨h.keys, h.vals, h.blk, FrB.refl _ _ _, h.le, h.lt, h.apart⟩
  have pa := (p0.alloc (Obj.cells #[Value.int .i64 k] 3)).drew
  have pb := ((p0.alloc (Obj.cells #[Value.int .i64 k] 3)).alloc (Obj.cells #[Value.int .i64 v] 3)).drew
  have pc := ((p0.alloc (Obj.cells #[Value.int .i64 v] 3)).alloc (Obj.cells #[Value.int .i64 k] 3)).drew
  have hk0 := h.keys
  have c2 : w.cell? ⟨xb, 2, none⟩ = some (.slice ka ks.length kc) := h.blk.cell 2
  have c3 : w.cell? ⟨xb, 3, none⟩ = some (.slice va vs.length vc) := h.blk.cell 3
  have xl : xb < w.heap.size := h.blk.lt
  clear h p0
  go_enter Try.func54, Try.ntmps54
  go_wp2_with fail
  go_region_law
    ((first
      | (refine step_append_lies _ rfl (.tmp 6) (.tmp 8) 22 rfl base 3 i0 _ 1 8 Try.underlying22 hi0 hz0 hz1 hz2 rfl (by omega) (.slice ka ks.length kc) ks.length (ks.map i64v) (by rfl) (by with_reducible first | exact pa.hk | exact pb.hk | exact pc.hk) _ 1 1 [.int .i64 k] (by rfl) (by rfl) (news1 (by simp)) (fun _ h => by rw [List.mem_singleton.1 h]; rfl) (by omega) (by unfold maxLen; omega) (by omega) (by with_reducible first | exact pa.le | exact pb.le | exact pc.le) _ (by rfl) ?_; intro gg cap w1 hown1 hgrow hat hlt1
         have q1 := put_one (by with_reducible first | exact pa | exact pb | exact pc) hown1 hgrow hat hlt1
         have qm := put_mem (by with_reducible first | exact pa.hk | exact pb.hk | exact pc.hk) hgrow hk0
         obtain ⟨c13, xl1⟩ := q1.c3
         clear hown1 hgrow hat hlt1)
      | (refine step_append_lies _ rfl (.tmp 11) (.tmp 13) 22 rfl base 3 i0 _ 1 8 Try.underlying22 hi0 hz0 hz1 hz2 rfl (by omega) (.slice va vs.length vc) vs.length (vs.map i64v) (by rfl) (by with_reducible first | exact q1.hv | exact (q1.alloc _).hv) _ 1 1 [.int .i64 v] (by rfl) (by rfl) (news1 (by first | (simp; done) | (refine qm _ _ (by simp) ?_; simp))) (fun _ h => by rw [List.mem_singleton.1 h]; rfl) (by omega) (by unfold maxLen; omega) (by omega) (by with_reducible first | exact q1.le | exact (q1.alloc _).le) _ (by rfl) ?_; intro gv capv w2 hown2 hgrow2 hatv hlt2
         have q2 := put_two (by with_reducible first | exact q1 | exact q1.alloc _) hown2 hgrow2 hatv
         obtain ⟨d2, d3, fz2⟩ := q2.cells
         clear hown2 hgrow2 hatv hlt2)))
  all_goals
    go_wp2
    go_end0
    exact ⟨rfl, put_done q2⟩
end Go.Proofs.Ytjbelfbfhcmgeaa
