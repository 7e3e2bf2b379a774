-- PRINTED BY print.sh 35421559b90ae4d0a3588c463048766b98c2df88dd9212a6774a882060cdf62d: not written by this session
import Derived.Test.YtaljobijdbgohaaPFnGlobLastsx0
import Derived.Test.YtaljobijdbgohaaPFnGlobLastsx1
namespace Go.Proofs.Ytaljobijdbgohaa.PFnGlobLasts
open Go.RowKit Go.Proofs.YtaljobijdbgohaaW.PrintWords Go.Proofs.YtaljobijdbgohaaW.PrintLast Go.Proofs.YtaljobijdbgohaaW.PrintMore
attribute [local go_sem] max2_int min2_int max_two min_two max_three min_three max_four min_four   -- for this text's walks alone
set_option linter.unusedVariables false
set_option linter.unusedSimpArgs false

/-! ### laws_FnGlobLasts: function 6 -/
def laws_FnGlobLasts.f (k : Nat) (a0 : ByteArray) : Option (Bool) := if (a0.size : Int) > 2147483647 then (some true) else ((impl_GlobLastSlash.f k a0).bind fun t105 => ((spec_GlobLast.f k a0 false).bind fun t106 => (if t105 = t106 then ((impl_GlobLastSlashOrAlt.f k a0).bind fun t107 => ((spec_GlobLast.f k a0 true).bind fun t108 => (if t107 = t108 then ((impl_GlobLastSlash.f k (⟨#[97]⟩ : ByteArray)).bind fun t109 => (some (t109 == (-1)))) else (some false)))) else (some false))))
theorem laws_FnGlobLasts.mono : ∀ a0 k, LeO (laws_FnGlobLasts.f k a0) (laws_FnGlobLasts.f (k + 1) a0) := by
  intro a0 k
  unfold laws_FnGlobLasts.f
  repeat' first
      | (with_reducible exact impl_GlobLastSlash.mono _ _)
      | (with_reducible exact impl_GlobLastSlashOrAlt.mono _ _)
      | (with_reducible exact spec_GlobLast.mono _ _ _)
      | (with_reducible exact LeO.refl _)
      | (with_reducible exact LeO.none _)
      | (with_reducible refine LeO.ite ?_ ?_)
      | (with_reducible refine LeO.bind ?_ (fun _ => ?_))
      | exact impl_GlobLastSlash.mono _ _
      | exact impl_GlobLastSlashOrAlt.mono _ _
      | exact spec_GlobLast.mono _ _ _
      | exact LeO.none _
      | refine LeO.ite ?_ ?_
      | refine LeO.bind ?_ (fun _ => ?_)
set_option maxHeartbeats 8000000 in
set_option maxRecDepth 100000 in
theorem laws_FnGlobLasts.calls (k : Nat) (a0 : ByteArray) (r : Bool) (w : World) (h : laws_FnGlobLasts.f k a0 = some r) :
    Calls Try.prog 6 #[.string a0] w fun e w' => e = .returned (.bool r) ∧ Drawn0 w w' := by
  have H : (if (a0.size : Int) > 2147483647 then (some true) else ((impl_GlobLastSlash.f k a0).bind fun t105 => ((spec_GlobLast.f k a0 false).bind fun t106 => (if t105 = t106 then ((impl_GlobLastSlashOrAlt.f k a0).bind fun t107 => ((spec_GlobLast.f k a0 true).bind fun t108 => (if t107 = t108 then ((impl_GlobLastSlash.f k (⟨#[97]⟩ : ByteArray)).bind fun t109 => (some (t109 == (-1)))) else (some false)))) else (some false))))) = some r := h
  clear h
  by_cases c2 : (a0.size : Int) > 2147483647
  · rw [if_pos c2] at H
    have c2b0 : decide (2147483647 < (a0.size : Int)) = true := decide_eq_true c2
    have c2b1 : decide (2147483647 < a0.size) = true := decide_eq_true (by omega)
    clear c2
    obtain rfl := Option.some.inj H
    go_enter Try.func6, Try.ntmps6
    go_wp2
    go_ret
    exact ⟨by first | rfl | (simp; done) | (simp [*]; done), by repeat (first | exact Drawn0.refl _ | apply Drawn0.step)⟩
  · rw [if_neg c2] at H
    have c2b0 : decide (2147483647 < (a0.size : Int)) = false := decide_eq_false c2
    have c2b1 : decide (2147483647 < a0.size) = false := decide_eq_false (by omega)
    clear c2
    replace H := Option.bind_eq_some_iff.mp H
    obtain ⟨t105, A30, H⟩ := H
    replace H : ((spec_GlobLast.f k a0 false).bind fun t106 => (if t105 = t106 then ((impl_GlobLastSlashOrAlt.f k a0).bind fun t107 => ((spec_GlobLast.f k a0 true).bind fun t108 => (if t107 = t108 then ((impl_GlobLastSlash.f k (⟨#[97]⟩ : ByteArray)).bind fun t109 => (some (t109 == (-1)))) else (some false)))) else (some false))) = some r := H
    have A3 := Aside0.mk A30
    clear A30
    replace H := Option.bind_eq_some_iff.mp H
    obtain ⟨t106, A40, H⟩ := H
    replace H : (if t105 = t106 then ((impl_GlobLastSlashOrAlt.f k a0).bind fun t107 => ((spec_GlobLast.f k a0 true).bind fun t108 => (if t107 = t108 then ((impl_GlobLastSlash.f k (⟨#[97]⟩ : ByteArray)).bind fun t109 => (some (t109 == (-1)))) else (some false)))) else (some false)) = some r := H
    have A4 := Aside0.mk A40
    clear A40
    by_cases c5 : t105 = t106
    · rw [if_pos c5] at H
      have c5b0 : (t105 == t106) = true := beq_iff_eq.mpr c5
      have c5b1 : (t105 != t106) = false := bne_eq_false_iff_eq.mpr c5
      clear c5
      replace H := Option.bind_eq_some_iff.mp H
      obtain ⟨t107, A60, H⟩ := H
      replace H : ((spec_GlobLast.f k a0 true).bind fun t108 => (if t107 = t108 then ((impl_GlobLastSlash.f k (⟨#[97]⟩ : ByteArray)).bind fun t109 => (some (t109 == (-1)))) else (some false))) = some r := H
      have A6 := Aside0.mk A60
      clear A60
      replace H := Option.bind_eq_some_iff.mp H
      obtain ⟨t108, A70, H⟩ := H
      replace H : (if t107 = t108 then ((impl_GlobLastSlash.f k (⟨#[97]⟩ : ByteArray)).bind fun t109 => (some (t109 == (-1)))) else (some false)) = some r := H
      have A7 := Aside0.mk A70
      clear A70
      by_cases c8 : t107 = t108
      · rw [if_pos c8] at H
        have c8b0 : (t107 == t108) = true := beq_iff_eq.mpr c8
        have c8b1 : (t107 != t108) = false := bne_eq_false_iff_eq.mpr c8
        clear c8
        replace H := Option.bind_eq_some_iff.mp H
        obtain ⟨t109, A90, H⟩ := H
        replace H : (some (t109 == (-1))) = some r := H
        have A9 := Aside0.mk A90
        clear A90
        obtain rfl := Option.some.inj H
        go_enter Try.func6, Try.ntmps6
        go_wp2_with (first | ((with_reducible refine gate_callee (f := 13) rfl ?_); refine goesL_ (some 7) rfl rfl Try.func13 (by kernel_rfl) rfl #[.string a0] rfl (by (try simp only [List.map_toArray, List.map_cons, List.map_nil]); first | done | rfl | (simp only [List.length_drop, List.length_take]; rfl)) ?_; (with_reducible refine (impl_GlobLastSlash.calls k a0 t105 _ A3.out).mono ?_); rintro e w' ⟨rfl, ⟨nd, rfl⟩⟩; refine ⟨_, rfl, ?_⟩) | ((with_reducible refine gate_callee (f := 14) rfl ?_); refine goesL_ (some 9) rfl rfl Try.func14 (by kernel_rfl) rfl #[.string a0, .bool false] rfl (by (try simp only [List.map_toArray, List.map_cons, List.map_nil]); first | done | rfl | (simp only [List.length_drop, List.length_take]; rfl)) ?_; (with_reducible refine (spec_GlobLast.calls k a0 false t106 _ A4.out).mono ?_); rintro e w' ⟨rfl, ⟨nd, rfl⟩⟩; refine ⟨_, rfl, ?_⟩) | (go_at_call 15; (with_reducible refine (impl_GlobLastSlashOrAlt.calls k a0 t107 _ A6.out).mono ?_); rintro e w' ⟨rfl, ⟨nd, rfl⟩⟩) | (go_at_call 14; (with_reducible refine (spec_GlobLast.calls k a0 true t108 _ A7.out).mono ?_); rintro e w' ⟨rfl, ⟨nd, rfl⟩⟩) | (go_at_call 13; (with_reducible refine (impl_GlobLastSlash.calls k (⟨#[97]⟩ : ByteArray) t109 _ A9.out).mono ?_); rintro e w' ⟨rfl, ⟨nd, rfl⟩⟩))
        go_ret
        exact ⟨by first | rfl | (simp; done) | (simp [*]; done), by repeat (first | exact Drawn0.refl _ | apply Drawn0.step)⟩
      · rw [if_neg c8] at H
        have c8b0 : (t107 == t108) = false := beq_eq_false_iff_ne.mpr c8
        have c8b1 : (t107 != t108) = true := bne_iff_ne.mpr c8
        obtain rfl := Option.some.inj H
        go_enter Try.func6, Try.ntmps6
        go_wp2_with (first | ((with_reducible refine gate_callee (f := 13) rfl ?_); refine goesL_ (some 7) rfl rfl Try.func13 (by kernel_rfl) rfl #[.string a0] rfl (by (try simp only [List.map_toArray, List.map_cons, List.map_nil]); first | done | rfl | (simp only [List.length_drop, List.length_take]; rfl)) ?_; (with_reducible refine (impl_GlobLastSlash.calls k a0 t105 _ A3.out).mono ?_); rintro e w' ⟨rfl, ⟨nd, rfl⟩⟩; refine ⟨_, rfl, ?_⟩) | ((with_reducible refine gate_callee (f := 14) rfl ?_); refine goesL_ (some 9) rfl rfl Try.func14 (by kernel_rfl) rfl #[.string a0, .bool false] rfl (by (try simp only [List.map_toArray, List.map_cons, List.map_nil]); first | done | rfl | (simp only [List.length_drop, List.length_take]; rfl)) ?_; (with_reducible refine (spec_GlobLast.calls k a0 false t106 _ A4.out).mono ?_); rintro e w' ⟨rfl, ⟨nd, rfl⟩⟩; refine ⟨_, rfl, ?_⟩) | (go_at_call 15; (with_reducible refine (impl_GlobLastSlashOrAlt.calls k a0 t107 _ A6.out).mono ?_); rintro e w' ⟨rfl, ⟨nd, rfl⟩⟩) | (go_at_call 14; (with_reducible refine (spec_GlobLast.calls k a0 true t108 _ A7.out).mono ?_); rintro e w' ⟨rfl, ⟨nd, rfl⟩⟩))
        go_ret
        exact ⟨by first | rfl | (simp; done) | (simp [*]; done), by repeat (first | exact Drawn0.refl _ | apply Drawn0.step)⟩
    · rw [if_neg c5] at H
      have c5b0 : (t105 == t106) = false := beq_eq_false_iff_ne.mpr c5
      have c5b1 : (t105 != t106) = true := bne_iff_ne.mpr c5
      obtain rfl := Option.some.inj H
      go_enter Try.func6, Try.ntmps6
      go_wp2_with (first | ((with_reducible refine gate_callee (f := 13) rfl ?_); refine goesL_ (some 7) rfl rfl Try.func13 (by kernel_rfl) rfl #[.string a0] rfl (by (try simp only [List.map_toArray, List.map_cons, List.map_nil]); first | done | rfl | (simp only [List.length_drop, List.length_take]; rfl)) ?_; (with_reducible refine (impl_GlobLastSlash.calls k a0 t105 _ A3.out).mono ?_); rintro e w' ⟨rfl, ⟨nd, rfl⟩⟩; refine ⟨_, rfl, ?_⟩) | ((with_reducible refine gate_callee (f := 14) rfl ?_); refine goesL_ (some 9) rfl rfl Try.func14 (by kernel_rfl) rfl #[.string a0, .bool false] rfl (by (try simp only [List.map_toArray, List.map_cons, List.map_nil]); first | done | rfl | (simp only [List.length_drop, List.length_take]; rfl)) ?_; (with_reducible refine (spec_GlobLast.calls k a0 false t106 _ A4.out).mono ?_); rintro e w' ⟨rfl, ⟨nd, rfl⟩⟩; refine ⟨_, rfl, ?_⟩))
      go_ret
      exact ⟨by first | rfl | (simp; done) | (simp [*]; done), by repeat (first | exact Drawn0.refl _ | apply Drawn0.step)⟩

/-- THE ONE PURE STATEMENT of laws_FnGlobLasts: yours. -/
def laws_FnGlobLasts.Pure : Prop := ∀ (a0 : ByteArray), a0.size ≤ 140737488351232 → ∃ k, laws_FnGlobLasts.f k a0 = some true
theorem laws_FnGlobLasts.walk (P : laws_FnGlobLasts.Pure) (a0 : ByteArray) (w : World) (w0 : a0.size ≤ 140737488351232) :
    Calls Try.prog 6 #[.string a0] w fun e w' => e = .returned (.bool true) ∧ Below w.heap.size w w' := by
  obtain ⟨k, h⟩ := P a0 w0
  refine (laws_FnGlobLasts.calls k a0 true w h).mono ?_
  rintro e w' ⟨rfl, hd⟩
  exact ⟨rfl, hd.below⟩

end Go.Proofs.Ytaljobijdbgohaa.PFnGlobLasts
