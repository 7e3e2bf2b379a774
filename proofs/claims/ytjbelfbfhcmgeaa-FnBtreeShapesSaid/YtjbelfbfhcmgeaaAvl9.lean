/- impl.less, avl.New, impl.AvlRun: a script on an empty tree. -/
import Derived.Test.YtjbelfbfhcmgeaaAvl8
import Derived.Test.YtjbelfbfhcmgeaaLess
namespace Go.Proofs.Ytjbelfbfhcmgeaa
open Go.RowKit

theorem TR.weaken {w : World} {B B' : Nat} (hB : B ≤ B') : ∀ {ds : List ToldD} {cs : List Value}, TR w B' ds cs → TR w B ds cs
  | [], _, h => h
  | _ :: _, _, ⟨ka, kc, va, vc, rest, e, h1, h2, h3⟩ => ⟨ka, kc, va, vc, rest, e, own_weaken h1 hB, own_weaken h2 hB, h3.weaken hB⟩
theorem new_calls (g : Fn) (fi ca : Array Value) (w : World) :
    Calls Try.prog 36 #[.func g fi ca] w fun e w' => e = .returned (.pointer (some ⟨w.heap.size, 0, none⟩)) ∧ TreeAt w' w.heap.size .nil (.func g fi ca) ∧ Below w.heap.size w w' ∧ w'.heap.size = w.heap.size + 1 := by
  go_enter Try.func36, Try.ntmps36
  go_wp2
  go_ret
  exact ⟨rfl, Blk.new _ _ _, (Below.refl _ _).alloc (Nat.le_refl _) _, by simp⟩
/-- what AvlRun tells. -/
def runN (xs : List Int) (l : List ActD) : List ToldD := (runA xs .nil l).2
/-- a slice that tells. -/
def Tolds (w : World) (B : Nat) (v : Value) (ds : List ToldD) : Prop := ∃ cs, w.ownsRow B 50 4 v ds.length cs ∧ TR w B ds cs
theorem avlRun_calls (xs : List Int) (ov av : Value) (l : List ActD) (w : World) (ho : SlR w w.heap.size ov (xs.map i64v)) (ha : SlA w w.heap.size av l) (hl : l.length ≤ 7000000000) :
    Calls Try.prog 20 #[ov, av] w fun e w' => ∃ v', e = .returned v' ∧ Tolds w' w.heap.size v' (runN xs l) ∧ Below w.heap.size w w' := by
  have hs2 := ha.form
  obtain ⟨A, c, rfl⟩ := ho.form
  rw [List.length_map] at *
  obtain ⟨A2, c2, rfl⟩ := hs2
  have HO := Lib.hid ho
  have HA := Lib.hid ha
  clear ho ha
  go_enter Try.func20, Try.ntmps20
  go_wp2_with fail
  refine (lessMake_calls xs _ w HO.out).mono ?_
  rintro e w1 ⟨f, rfl, hf, hb1⟩
  obtain ⟨g, hg⟩ : ∃ fn fi ca, f = .func fn fi ca := by obtain ⟨_, _, rfl, _⟩ := hf; exact ⟨_, _, _, rfl⟩
  obtain ⟨fi, ca, rfl⟩ := hg
  have HF := Lib.hid hf
  clear hf
  go_wp2_with fail
  refine (new_calls g fi ca w1).mono ?_
  rintro e w2 ⟨rfl, ht, hb2, hz2⟩
  have HZ := Lib.hid hz2
  clear hz2
  go_wp2_with fail
  have hle : w.heap.size ≤ w1.heap.size := hb1.size
  have hsz := HZ.out
  refine (avlDo_calls xs _ _ w1.heap.size w1.heap.size l .nil w2 (((HA.out.below hb1).mono hle).below hb2) hl ht trivial (by simp [AT.ids]) trivial trivial (by simp [AT.ids]) (HF.out.below hb2) (by simp [AT.ids]) (by omega) (Nat.le_refl _)).mono ?_
  rintro e w3 ⟨v', cs, t', rfl, g1, g2, _, _, _, _, _, _, _, _, g3⟩
  go_wp2
  go_ret
  exact ⟨v', rfl, ⟨cs, own_weaken g1 hle, g2.weaken hle⟩, hb1.trans ((hb2.mono hle).trans (g3.mono hle))⟩
end Go.Proofs.Ytjbelfbfhcmgeaa
