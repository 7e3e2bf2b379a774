/- slices that came in, as the printed contracts read them. -/
import Derived.Test.YtinajjceojfflaaIntRow
import Derived.Test.YtinajjceojfflaaWWords
namespace Go.Proofs.Ytinajjceojfflaa
open Go.RowKit Go.Proofs.YtinajjceojfflaaW.PrintWords

theorem SlC.kd {α β : Type} {d : Kd β} {s : Nat} {cells : α → List Value} {w : World} {B n c : Nat} {A : Option Addr} {l : List α} (f : α → β) (hd : d.sz = s) (hs : ∀ a, (cells a).length = s) (hK : ∀ a, d.K w (f a) (cells a)) (h : SlC s cells w B (.slice A n c) l) (hm : l.length ≤ 9223372036854775807) :
    d.C w A l.length (l.map f) := by
  obtain ⟨A', cap, e, h⟩ := h.is
  cases e
  refine ⟨by simp, hm, fun h0 => ?_⟩
  rcases h with rfl | ⟨b, off, rfl, h1, h3, h4, h5⟩
  · simp at h0
  · refine ⟨_, rfl, fun j p hj => ?_⟩
    rw [List.getElem?_map, Option.map_eq_some_iff] at hj
    obtain ⟨a, ha, rfl⟩ := hj
    refine ⟨cells a, by rw [hs, hd], hK a, fun i u hu => ?_⟩
    rw [show (⟨b, off, none⟩ : Addr).add (j * d.sz + i) = ⟨b, off + j * s + i, none⟩ by rw [hd]; unfold Addr.add; split <;> simp_all <;> omega]
    exact h5 j a ha i u hu
theorem SlC.le {α : Type} {s : Nat} {cells : α → List Value} {w : World} {B n c : Nat} {A : Option Addr} {l : List α} (h : SlC s cells w B (.slice A n c) l) : l.length ≤ c := by
  obtain ⟨A', cap, e, h⟩ := h.is
  cases e
  rcases h with h | ⟨b, off, rfl, h1, h3, h4, h5⟩
  · subst h; simp
  · exact h1
theorem SlI.kd {w : World} {B n c : Nat} {A : Option Addr} {l : List Int} (h : SlI w B (.slice A n c) l) (hm : l.length ≤ 9223372036854775807) : (Kd.int .i64).C w A l.length l := by
  have := SlC.kd (d := Kd.int .i64) (f := id) rfl int1_len (fun _ => rfl) h hm
  rwa [List.map_id] at this
end Go.Proofs.Ytinajjceojfflaa
