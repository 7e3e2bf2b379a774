/- package stack: New, Push, Pop; impl.StackRun of a script that pushes and pops on the first stack. -/
import Derived.Test.YtinajjceojfflaaSameS
import Derived.Test.YtinajjceojfflaaRank
import Derived.Lib.Hide
import Derived.StillTailTactics
import Derived.Deep.Cut
import Derived.IntWalk
namespace Go.Proofs.Ytinajjceojfflaa
open Go.RowKit

theorem Try.infoI2 : (Try.prog.info? 3).map (fun i => (i.zero, i.size, i.bytes)) = some (some (.int .i64 0), 1, 8) := by kernel_rfl
structure StkI (w : World) (B sb : Nat) (xs : List Int) (A : Option Addr) (kc : Nat) : Prop where
  blk : Blk w sb #[.slice A xs.length kc] 115
  own : w.ownsRow B 3 1 (.slice A xs.length kc) xs.length (xs.map i64v)
  ge : B ≤ sb
/-- what may be written: the stack, and its row. -/
def stkS (sb : Nat) (n kc : Nat) (A : Option Addr) : List Nat := sb :: (Value.slice A n kc).ownBlock.toList
theorem own_ty {w : World} {B sz n : Nat} {T : TypeId} {v : Value} {xs : List Value} (h : w.ownsRow B T sz v n xs) {g : Nat} (hg : v.ownBlock = some g) : ∃ cur, Blk w g cur T ∧ B ≤ g := by
  rcases h.2 with ⟨e1, _⟩ | ⟨g', cap, cur, e1, h1, hc, _⟩
  · rw [e1] at hg; cases hg
  · rw [e1] at hg; cases hg
    exact ⟨cur, hc, h1⟩
theorem own_fr {w w' : World} {B sz n : Nat} {T : TypeId} {v : Value} {xs : List Value} (h : w.ownsRow B T sz v n xs) {S : List Nat} (hf : Fr S w w') (hn : ∀ b ∈ S, v.ownBlock ≠ some b) : w'.ownsRow B T sz v n xs := by
  refine ⟨h.1, h.2.imp id ?_⟩
  rintro ⟨g, cap, cur, e1, e2, e3, e4⟩
  exact ⟨g, cap, cur, e1, e2, (show Blk w' g cur _ from Blk.fr (show Blk w g cur _ from e3) hf (fun e => hn g e (by rw [e1]; rfl))), e4⟩
theorem StkI.fr {w w' : World} {B sb : Nat} {xs : List Int} {A : Option Addr} {kc : Nat} (h : StkI w B sb xs A kc) {S : List Nat} (hf : Fr S w w') (h0 : ∀ b ∈ S, b ∉ stkS sb xs.length kc A) : StkI w' B sb xs A kc := by
  refine ⟨h.blk.fr hf (fun e => h0 _ e (List.mem_cons_self ..)), own_fr h.own hf fun b hb e => h0 b hb ?_, h.ge⟩
  unfold stkS
  rw [e]; simp
theorem stackNew_calls (w : World) (B : Nat) (hB : B ≤ w.heap.size) : Calls Try.prog 48 #[] w fun e w' => e = .returned (.pointer (some ⟨w.heap.size, 0, none⟩)) ∧ StkI w' B w.heap.size [] none 0 ∧ Below w.heap.size w w' ∧ w'.heap.size = w.heap.size + 1 := by
  go_enter Try.func48, Try.ntmps48
  go_wp2
  go_ret
  exact ⟨rfl, ⟨Blk.new _ _ _, World.ownsRow_nil _ _ _ _, hB⟩, (Below.refl _ w).alloc (Nat.le_refl _) _, by simp⟩
set_option maxHeartbeats 1600000 in
set_option maxRecDepth 100000 in
theorem push_calls (B sb : Nat) (xs : List Int) (A : Option Addr) (kc : Nat) (k : Int) (w : World) (h : StkI w B sb xs A kc) (hB : B ≤ w.heap.size) (hk : xs.length ≤ 100000000000) :
    Calls Try.prog 50 #[.pointer (some ⟨sb, 0, none⟩), .int .i64 k] w fun e w' => e = .returned (.tuple #[]) ∧ (∃ A' kc', StkI w' B sb (xs ++ [k]) A' kc') ∧ Fr (stkS sb xs.length kc A) w w' := by
  obtain ⟨i0, hi0, hz0, hz1, hz2⟩ := info_parts Try.infoI2
  have c0 : w.cell? ⟨sb, 0, none⟩ = some (.slice A xs.length kc) := h.blk.cell 0
  have hown := h.own
  have HH := Lib.hid h
  clear h
  go_enter Try.func50, Try.ntmps50
  go_wp2_with (at_builtin; refine wpList_append_own _ rfl (.tmp 8) (.tmp 10) 22 rfl B 3 i0 _ 1 8 Try.underlying22 hi0 hz0 hz1 hz2 rfl (by omega) (.slice A xs.length kc) xs.length _ rfl (hown.alloc _) ⟨w.heap.size, 0, none⟩ 1 1 [.int .i64 k] rfl rfl (news1 ((Blk.new w #[.int .i64 k] 3).cell 0)) (by simp [Value.oneCell']) (by unfold maxLen; omega) (by omega) (by simp; omega) ?_; intro v' w1 hown1 hgrow _; obtain ⟨A1, c1, rfl⟩ := own_form hown1; have hne : some sb ≠ (Value.slice A xs.length kc).ownBlock := fun e => (by obtain ⟨cur, hc, _⟩ := own_ty HH.out.own e.symm; exact absurd (Blk.ty hc HH.out.blk) (by decide)); have hb1 := (HH.out.blk.alloc (Obj.cells #[.int .i64 k] 3)).grown hgrow hne; have d0 := hb1.cell 0; have fz1 := hb1.frozen; have HG := Lib.hid hgrow; have HN := Lib.hid hne; clear hgrow hne)
  go_end0
  have f1 : Fr (stkS sb xs.length kc A) (w.alloc (Obj.cells #[.int .i64 k] 3)) w1 := ⟨HG.out.os, HG.out.tape, HG.out.output, HG.out.size, fun j hj hn => HG.out.block j hj (fun e => hn (by unfold stkS; rw [← e]; simp))⟩
  refine ⟨rfl, ⟨A1, c1, ?_, ?_, HH.out.ge⟩, ((Fr.alloc _ w _).comp f1).comp (Fr.setCell _ sb 0 _ (List.mem_cons_self ..))⟩
  · rw [List.length_append]; exact hb1.set 0 _
  · rw [List.length_append, List.map_append]
    refine own_fr hown1 (Fr.setCell (S := [sb]) w1 sb 0 _ (by simp)) (fun b hb e => ?_)
    obtain ⟨cur, hc, _⟩ := own_ty hown1 e
    rw [List.mem_singleton.1 hb] at hc
    exact absurd (Blk.ty hc hb1) (by decide)
theorem own_dropLast {w : World} {B kc : Nat} {A : Option Addr} {xs : List Int} (h : w.ownsRow B 3 1 (.slice A xs.length kc) xs.length (xs.map i64v)) : w.ownsRow B 3 1 (.slice A (xs.length - 1) kc) (xs.length - 1) (xs.dropLast.map i64v) := by
  rcases h.2 with ⟨_, h0⟩ | ⟨g, cap, cur, e, h1, h2, h3, h4, h5, h6⟩
  · have := List.length_eq_zero_iff.1 h0
    subst this
    exact h
  · cases e
    refine ⟨by simp, .inr ⟨g, kc, cur, rfl, h1, h2, by omega, h4, h5, ?_⟩⟩
    have hl : (cur.toList.take (xs.length * 1)).length = xs.length := by rw [h6]; simp
    rw [List.map_dropLast, ← h6, List.dropLast_eq_take, hl, List.take_take]
    congr 1
    omega
theorem pop_none (B sb : Nat) (A : Option Addr) (kc : Nat) (w : World) (h : StkI w B sb [] A kc) :
    Calls Try.prog 51 #[.pointer (some ⟨sb, 0, none⟩)] w fun e w' => e = .returned (.int .i64 0) ∧ w' = w := by
  have c0 : w.cell? ⟨sb, 0, none⟩ = some (.slice A 0 kc) := h.blk.cell 0
  clear h
  go_enter Try.func51, Try.ntmps51
  go_wp2
  go_ret
  exact ⟨rfl, rfl⟩
set_option maxHeartbeats 1600000 in
set_option maxRecDepth 100000 in
theorem pop_some (B sb : Nat) (xs : List Int) (A : Option Addr) (kc : Nat) (w : World) (h : StkI w B sb xs A kc) (h0 : 0 < xs.length) (hk : xs.length ≤ 100000000000) :
    Calls Try.prog 51 #[.pointer (some ⟨sb, 0, none⟩)] w fun e w' => e = .returned (.int .i64 (xs.getD (xs.length - 1) 0)) ∧ StkI w' B sb xs.dropLast A kc ∧ Fr [sb] w w' := by
  have c0 : w.cell? ⟨sb, 0, none⟩ = some (.slice A xs.length kc) := h.blk.cell 0
  have cf : w.frozen? ⟨sb, 0, none⟩ = false := h.blk.frozen 0
  have hs := own_IntSl h.own
  obtain ⟨b, off, rfl, xn⟩ := hs.at_ (i := xs.length - 1) (by omega)
  have hcap : xs.length ≤ kc := by
    rcases h.own.2 with ⟨e, _⟩ | ⟨g, cap, cur, e, h1, h2, h3, _⟩
    · cases e
    · cases e; exact h3
  have HH := Lib.hid h
  clear hs h
  have p0 : ((xs.length : Int) == 0) = false := by rw [beq_eq_false_iff_ne]; omega
  have p1 : (0 : Int) < (xs.length : Int) := by omega
  have p2 : (xs.length : Int) - 1 = ((xs.length - 1 : Nat) : Int) := by omega
  have p3 : ((xs.length - 1 : Nat) : Int) < (xs.length : Int) := by omega
  have p4 : (0 : Int) ≤ ((xs.length - 1 : Nat) : Int) := by omega
  have p5 : ((xs.length - 1 : Nat) : Int) ≤ (kc : Int) := by omega
  have p6 : IntKind.i64.wrap ((xs.length - 1 : Nat) : Int) = ((xs.length - 1 : Nat) : Int) := IntWalk.i64_in _ (by omega)
  go_enter Try.func51, Try.ntmps51
  go_wp2_with fail
  go_quiet (fail)
  go_wp2_with fail
  have c9 : (w.drewN nq).cell? ⟨sb, 0, none⟩ = some (.slice (some ⟨b, off, none⟩) xs.length kc) := c0
  have f9 : (w.drewN nq).frozen? ⟨sb, 0, none⟩ = false := cf
  obtain ⟨w9, hw9⟩ : ∃ w9, w9 = w.drewN nq := ⟨_, rfl⟩
  rw [← hw9] at c9 f9 ⊢
  have H9 := Lib.hid hw9
  clear hw9 c0 cf xn
  go_still_tail 14, (by kernel_rfl)
  change wpList _ _ _ _ _ (w9.drewN 1)
  go_wp2_with fail
  go_ret
  rw [H9.out]
  have b9 := ((HH.out.blk.drewN nq).drewN 1).set 0 (.slice (some ⟨b, off, none⟩) (xs.length - 1) kc)
  have f9 : Fr [sb] w (((w.drewN nq).drewN 1).setCell ⟨sb, 0, none⟩ (.slice (some ⟨b, off, none⟩) (xs.length - 1) kc)) := ((Fr.drewN _ w nq).comp (Fr.drewN _ _ 1)).comp (Fr.setCell _ sb 0 _ (by simp))
  refine ⟨by show Ending.returned (Value.int .i64 (xs[xs.length - 1]?.getD 0)) = _; rw [List.getD_eq_getElem?_getD], ⟨?_, ?_, HH.out.ge⟩, f9⟩
  · rw [List.length_dropLast]; exact b9
  · rw [List.length_dropLast]
    refine own_fr (own_dropLast HH.out.own) f9 (fun c hc e => ?_)
    obtain ⟨cur, hc2, _⟩ := own_ty (own_dropLast HH.out.own) e
    rw [List.mem_singleton.1 hc] at hc2
    exact absurd (Blk.ty hc2 HH.out.blk) (by decide)
end Go.Proofs.Ytinajjceojfflaa
