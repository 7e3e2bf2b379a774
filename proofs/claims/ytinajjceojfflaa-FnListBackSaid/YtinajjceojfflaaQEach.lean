/- what a walk over a list gives: impl.QueueRun$1, Node.Each, Queue.Each. -/
import Derived.Test.YtinajjceojfflaaQPull
import Derived.Test.YtinajjceojfflaaFrB
import Derived.Test.YtinajjceojfflaaSeen
import Derived.Deep.LoopGhost
namespace Go.Proofs.Ytinajjceojfflaa
open Go.RowKit

theorem Try.infoI : (Try.prog.info? 3).map (fun i => (i.zero, i.size, i.bytes)) = some (some (.int .i64 0), 1, 8) := by kernel_rfl
/-- what is seen, with keys, in a block of its own. -/
structure SeenT (w : World) (base xb : Nat) (n : Int) (b : Bool) (ks : List Int) (ka : Option Addr) (kc : Nat) : Prop where
  blk : Blk w xb #[.int .i64 n, .bool b, .slice ka ks.length kc, .slice none 0 0] 31
  keys : w.ownsRow base 3 1 (.slice ka ks.length kc) ks.length (ks.map i64v)
  lt : xb < base
  le : base ≤ w.heap.size
def SeenX (w : World) (base xb : Nat) (n : Int) (b : Bool) (ks : List Int) : Prop := ∃ ka kc, SeenT w base xb n b ks ka kc
theorem own_setOther {w : World} {base xb i : Nat} {v u : Value} {n : Nat} {xs : List Value} (h : w.ownsRow base 3 1 u n xs) (hx : xb < base) : (w.setCell ⟨xb, i, none⟩ v).ownsRow base 3 1 u n xs := by
  refine h.kept (row := some xb) ⟨rfl, rfl, rfl, by simp [World.setCell], fun k hk hn => ?_⟩ ?_
  · rw [Below.heap_setCell _ _ _ _ (fun e => hn (by rw [e]))]
  · cases hv : u.ownBlock with
    | none => exact .inl rfl
    | some g => exact .inr (fun e => by have := (h.lt g hv).1; cases e; omega)
theorem SeenT.next {w w1 : World} {base xb : Nat} {n : Int} {b : Bool} {ks : List Int} {ka : Option Addr} {kc : Nat} (h : SeenT w base xb n b ks ka kc) (o : Obj) (hg : (w.alloc o).grownBy w1 (Value.slice ka ks.length kc).ownBlock) : Blk w1 xb #[.int .i64 n, .bool b, .slice ka ks.length kc, .slice none 0 0] 31 ∧ FrB base [xb] w w1 := by
  have nk : some xb ≠ (Value.slice ka ks.length kc).ownBlock := fun e => by have := (h.keys.lt _ e.symm).1; have := h.lt; omega
  exact ⟨(h.blk.alloc _).grown hg nk, ((FrB.refl base [xb] w).alloc h.le o).grown hg (by have := h.le; simp; omega) (fun g e => (h.keys.lt g e).1)⟩
set_option maxHeartbeats 1600000 in
set_option maxRecDepth 100000 in
theorem seenPut_calls (base xb : Nat) (n : Int) (b : Bool) (ks : List Int) (ka : Option Addr) (kc : Nat) (k : Int) (w : World) (h : SeenT w base xb n b ks ka kc) (hk : ks.length ≤ 100000000000) :
    Calls Try.prog 42 #[.int .i64 k, .pointer (some ⟨xb, 0, none⟩)] w fun e w' => e = .returned (.tuple #[]) ∧ SeenX w' base xb n b (ks ++ [k]) ∧ FrB base [xb] w w' := by
  obtain ⟨i0, hi0, hz0, hz1, hz2⟩ := info_parts Try.infoI
  have c2 : w.cell? ⟨xb, 2, none⟩ = some (.slice ka ks.length kc) := h.blk.cell 2
  have fz := h.blk.frozen
  have hown := h.keys
  have hle := h.le
  have HH := Lib.hid h
  clear h
  go_enter Try.func42, Try.ntmps42
  go_wp2_with (at_builtin; refine wpList_append_own _ rfl (.tmp 4) (.tmp 6) 22 rfl base 3 i0 _ 1 8 Try.underlying22 hi0 hz0 hz1 hz2 rfl (by omega) (.slice ka ks.length kc) ks.length _ rfl (hown.alloc _) ⟨w.heap.size, 0, none⟩ 1 1 [.int .i64 k] rfl rfl (news1 ((Blk.new w #[.int .i64 k] 3).cell 0)) (by simp [Value.oneCell']) (by unfold maxLen; omega) (by omega) (by simp; omega) ?_; intro v' w1 hown1 hgrow _; obtain ⟨A1, c1, rfl⟩ := own_form hown1; obtain ⟨hb1, hf1⟩ := HH.out.next _ hgrow; have d2 := hb1.cell 2; have fz1 := hb1.frozen; have xl := HH.out.lt; have xle := hf1.size; clear hgrow)
  go_end0
  refine ⟨rfl, ⟨A1, c1, ?_, ?_, xl, ?_⟩, hf1.trans (FrB.setCell _ xb 2 _ (by simp))⟩
  · rw [List.length_append]; exact hb1.set 2 _
  · rw [List.length_append, List.map_append]; exact own_setOther hown1 xl
  · simp [World.setCell]; omega
/-- what the nodes from one on hold. -/
theorem idAt_some {ns : List (Nat × Int)} {i : Nat} {p : Nat × Int} (h : ns[i]? = some p) : idAt ns i = some ⟨p.1, 0, none⟩ := by unfold idAt; rw [h]; rfl
set_option maxHeartbeats 1600000 in
theorem nodeEach_calls (base xb lb : Nat) (n : Int) (b : Bool) (ns : List (Nat × Int)) (ks : List Int) (w : World) (hd : DL w lb ns) (hx : SeenX w base xb n b ks) (hlt : ∀ a ∈ idsOf ns, a < base) (hk : ks.length + ns.length ≤ 100000000000) :
    Calls Try.prog 81 #[.pointer (idAt ns 0), .func (.func 42) #[] #[.pointer (some ⟨xb, 0, none⟩)]] w fun e w' => e = .returned (.tuple #[]) ∧ SeenX w' base xb n b (ks ++ ns.map Prod.snd) ∧ FrB base [xb] w w' := by
  have hne : ∀ a ∈ idsOf ns, a ∉ [xb] := by
    intro a ha e
    obtain ⟨p, hp, rfl⟩ := List.mem_map.1 ha
    obtain ⟨i, hi, rfl⟩ := List.getElem_of_mem hp
    obtain ⟨ka, kc, hT⟩ := hx
    simp at e
    exact blk_ne (hd.nodes i _ (List.getElem?_eq_getElem hi)) hT.blk (by decide) e
  have HD := Lib.hid hd
  have HX := Lib.hid hx
  have HL := Lib.hid hlt
  have HN := Lib.hid hne
  clear hd hx hlt hne
  go_enter Try.func81, Try.ntmps81
  go_wp2_with fail
  go_loopg [4] ns.length (fun kq v wr => ∃ k : Nat, k + kq = ns.length ∧ v = .pointer (idAt ns k) ∧ Hid (SeenX wr base xb n b (ks ++ (ns.take k).map Prod.snd) ∧ FrB base [xb] w wr))
  case atStart => exact ⟨0, by omega, rfl, ⟨by simpa using HX.out, FrB.refl _ _ _⟩⟩
  case round =>
    obtain ⟨k, hkk, rfl, HK⟩ := hrel
    by_cases hl : k < ns.length
    · obtain ⟨⟨z, y⟩, hzy⟩ : ∃ p, ns[k]? = some p := ⟨_, List.getElem?_eq_getElem hl⟩
      have hm : z ∈ idsOf ns := List.mem_map_of_mem (f := Prod.fst) (List.mem_of_getElem? hzy)
      have hz := (HD.out.nodes k _ hzy).frB HK.out.2 (HL.out z hm) (HN.out z hm)
      rw [idAt_some hzy]
      have z0 : wr.cell? ⟨z, 0, none⟩ = some (.int .i64 y) := hz.cell 0
      have HZ := Lib.hid (And.intro hz (And.intro hzy hm))
      have hlen : (ks ++ (ns.take k).map Prod.snd).length ≤ 100000000000 := by rw [List.length_append, List.length_map, List.length_take]; omega
      obtain ⟨ka, kc, hT⟩ := HK.out.1
      have HC := Lib.hid (seenPut_calls base xb n b _ ka kc y wr hT hlen)
      clear hz hzy hm hT hlen
      go_wp2_with fail
      refine HC.out.mono ?_
      rintro e w1 ⟨rfl, hx1, hf1⟩
      obtain ⟨hz, hzy, hm⟩ := HZ.out
      have hz1 := hz.frB hf1 (HL.out z hm) (HN.out z hm)
      have z2 : w1.cell? ⟨z, 2, none⟩ = some (.pointer (idAt ns (k + 1))) := hz1.cell 2
      have HE := Lib.hid (show SeenX w1 base xb n b (ks ++ (ns.take (k + 1)).map Prod.snd) ∧ FrB base [xb] w w1 by
        refine ⟨?_, HK.out.2.trans hf1⟩
        obtain ⟨_, e⟩ := List.getElem?_eq_some_iff.1 hzy
        rw [List.take_succ_eq_append_getElem hl, e, List.map_append, ← List.append_assoc]; exact hx1)
      clear hx1 hf1 hz hzy hm hz1 z0
      go_wp2_with fail
      go_roundg (gk - 1)
      case measure => omega
      case rel => exact ⟨k + 1, by omega, rfl, HE.out⟩
    · obtain rfl : k = ns.length := by omega
      rw [idAt_ge (Nat.le_refl _)]
      go_wp2_with fail
      go_end0
      have := HK.out
      rw [List.take_length] at this
      exact ⟨rfl, this⟩
set_option maxHeartbeats 1600000 in
theorem queueEach_calls (base xb qb lb : Nat) (n : Int) (b : Bool) (ns : List (Nat × Int)) (ks : List Int) (w : World) (hq : QI w qb lb ns) (hx : SeenX w base xb n b ks) (hlt : ∀ a ∈ idsOf ns, a < base) (hk : ks.length + ns.length ≤ 100000000000) :
    Calls Try.prog 41 #[.pointer (some ⟨qb, 0, none⟩), .func (.func 42) #[] #[.pointer (some ⟨xb, 0, none⟩)]] w fun e w' => e = .returned (.tuple #[]) ∧ SeenX w' base xb n b (ks ++ ns.map Prod.snd) ∧ FrB base [xb] w w' := by
  have q0 : w.cell? ⟨qb, 0, none⟩ = some (.pointer (some ⟨lb, 0, none⟩)) := hq.blk.cell 0
  have l0 : w.cell? ⟨lb, 0, none⟩ = some (.pointer (idAt ns 0)) := hq.dl.blk.cell 0
  have HC := Lib.hid (nodeEach_calls base xb lb n b ns ks w hq.dl hx hlt hk)
  clear hq hx hlt
  go_enter Try.func41, Try.ntmps41
  go_wp2_with fail
  refine HC.out.mono ?_
  rintro e w1 ⟨rfl, hx1, hf1⟩
  go_wp2
  go_end0
  exact ⟨rfl, hx1, hf1⟩
end Go.Proofs.Ytinajjceojfflaa
