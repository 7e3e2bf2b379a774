/- FnGlobLasts: the last slash, and the last slash or closing brace, with no backslash ahead, is told, in any text of at most 2^31 - 1 bytes (the statement asks no more of longer ones). -/
import Derived.Test.YtaljobijdbgohaaPFnGlobLastsx2
namespace Go.Proofs.Ytaljobijdbgohaa.Pure
open Go.RowKit Go.Proofs.Ytaljobijdbgohaa.PFnGlobLasts Go.Proofs.YtaljobijdbgohaaW.PrintWords Go.Proofs.YtaljobijdbgohaaW.PrintLast

/-- is there a slash (or a closing brace, if alt) at i, with no backslash ahead? -/
abbrev ends (s : ByteArray) (alt : Bool) (i : Nat) : Prop := (bt s i = 47 ∨ (alt = true ∧ bt s i = 125)) ∧ (i = 0 ∨ bt s (i - 1) ≠ 92)
/-- the last such place below n, or -1. -/
def lastOf (s : ByteArray) (alt : Bool) : Nat → Int
  | 0 => -1
  | n + 1 => if ends s alt n then n else lastOf s alt n
theorem w64 {i : Int} (h0 : -5 ≤ i) (h : i ≤ 4000000000) : wrap64 i = i := by unfold wrap64; omega
theorem spec_step (s : ByteArray) (alt : Bool) (hn : s.size ≤ 2147483647) (k i : Nat) (at_ : Int) (hi : i < s.size) :
    spec_GlobLast.l0 (k + 1) s alt at_ i = if ends s alt i then spec_GlobLast.l0 k s alt i ((i + 1 : Nat) : Int) else spec_GlobLast.l0 k s alt at_ ((i + 1 : Nat) : Int) := by
  simp only [spec_GlobLast.l0]
  rw [if_pos (by omega), if_pos (by omega), w64 (i := (i : Int) + 1) (by omega) (by omega), w64 (i := (i : Int) - 1) (by omega) (by omega), show ((i : Int) + 1) = ((i + 1 : Nat) : Int) by omega]
  unfold ends
  generalize bt s (i : Int) = x
  by_cases b : i = 0
  · subst b
    by_cases a : x = 47 <;> by_cases g : x = 125 <;> cases alt <;> simp_all
  · have p : 0 ≤ (i : Int) - 1 := by omega
    have q : (i : Int) - 1 < s.size := by omega
    have b' : ¬ (i : Int) = 0 := by omega
    rw [if_neg b', if_pos p, if_pos q]
    by_cases a : x = 47 <;> by_cases g : x = 125 <;> by_cases c : bt s ((i : Int) - 1) = 92 <;> cases alt <;> simp_all
theorem spec_tells (s : ByteArray) (alt : Bool) (hn : s.size ≤ 2147483647) (d : Nat) : ∀ (k i : Nat), i ≤ s.size → s.size - i = d → d < k →
    spec_GlobLast.l0 k s alt (lastOf s alt i) i = some (lastOf s alt s.size) := by
  induction d with
  | zero =>
    intro k i h1 hd hk
    obtain ⟨k, rfl⟩ : ∃ m, k = m + 1 := ⟨k - 1, by omega⟩
    simp only [spec_GlobLast.l0]; rw [if_neg (by omega)]
    rw [show i = s.size by omega]
  | succ d ih =>
    intro k i h1 hd hk
    obtain ⟨k, rfl⟩ : ∃ m, k = m + 1 := ⟨k - 1, by omega⟩
    have ih' := ih k (i + 1) (by omega) (by omega) (by omega)
    have hl : lastOf s alt (i + 1) = if ends s alt i then (i : Int) else lastOf s alt i := rfl
    rw [spec_step s alt hn k i _ (by omega)]
    rw [hl] at ih'
    by_cases e : ends s alt i
    · rw [if_pos e] at ih' ⊢; exact ih'
    · rw [if_neg e] at ih' ⊢; exact ih'
theorem back_step (s : ByteArray) (hn : s.size ≤ 2147483647) (k i : Nat) (hi : i < s.size) :
    doublestar_lastIndexSlash.l0 (k + 1) s i = if ends s false i then some (i : Int) else doublestar_lastIndexSlash.l0 k s ((i : Int) - 1) := by
  simp only [doublestar_lastIndexSlash.l0]
  rw [if_pos (by omega), if_pos (by omega), if_pos (by omega), w64 (by omega) (by omega)]
  unfold ends
  generalize bt s (i : Int) = x
  by_cases b : i = 0
  · subst b
    by_cases a : x = 47 <;> simp_all
  · have p : 0 ≤ (i : Int) - 1 := by omega
    have q : (i : Int) - 1 < s.size := by omega
    have b' : ¬ (i : Int) = 0 := by omega
    rw [if_neg b', if_pos p, if_pos q]
    by_cases a : x = 47 <;> by_cases c : bt s ((i : Int) - 1) = 92 <;> simp_all
theorem back_alt_step (s : ByteArray) (hn : s.size ≤ 2147483647) (k i : Nat) (hi : i < s.size) :
    doublestar_lastIndexSlashOrAlt.l0 (k + 1) s i = if ends s true i then some (i : Int) else doublestar_lastIndexSlashOrAlt.l0 k s ((i : Int) - 1) := by
  simp only [doublestar_lastIndexSlashOrAlt.l0]
  rw [if_pos (by omega), if_pos (by omega), if_pos (by omega), w64 (by omega) (by omega)]
  unfold ends
  generalize bt s (i : Int) = x
  by_cases b : i = 0
  · subst b
    by_cases a : x = 47 <;> by_cases g : x = 125 <;> simp_all
  · have p : 0 ≤ (i : Int) - 1 := by omega
    have q : (i : Int) - 1 < s.size := by omega
    have b' : ¬ (i : Int) = 0 := by omega
    rw [if_neg b', if_pos p, if_pos q]
    by_cases a : x = 47 <;> by_cases g : x = 125 <;> by_cases c : bt s ((i : Int) - 1) = 92 <;> simp_all
theorem back_tells (s : ByteArray) (hn : s.size ≤ 2147483647) (i : Nat) : ∀ (k : Nat), i ≤ s.size → i < k →
    doublestar_lastIndexSlash.l0 k s ((i : Int) - 1) = some (lastOf s false i) := by
  induction i with
  | zero =>
    intro k h1 hk
    obtain ⟨k, rfl⟩ : ∃ m, k = m + 1 := ⟨k - 1, by omega⟩
    simp only [doublestar_lastIndexSlash.l0]; rw [if_neg (by omega)]; rfl
  | succ i ih =>
    intro k h1 hk
    obtain ⟨k, rfl⟩ : ∃ m, k = m + 1 := ⟨k - 1, by omega⟩
    rw [show (((i + 1 : Nat) : Int) - 1) = (i : Int) by omega, back_step s hn k i (by omega), ih k (by omega) (by omega)]
    have hl : lastOf s false (i + 1) = if ends s false i then (i : Int) else lastOf s false i := rfl
    rw [hl]; split <;> rfl
theorem back_alt_tells (s : ByteArray) (hn : s.size ≤ 2147483647) (i : Nat) : ∀ (k : Nat), i ≤ s.size → i < k →
    doublestar_lastIndexSlashOrAlt.l0 k s ((i : Int) - 1) = some (lastOf s true i) := by
  induction i with
  | zero =>
    intro k h1 hk
    obtain ⟨k, rfl⟩ : ∃ m, k = m + 1 := ⟨k - 1, by omega⟩
    simp only [doublestar_lastIndexSlashOrAlt.l0]; rw [if_neg (by omega)]; rfl
  | succ i ih =>
    intro k h1 hk
    obtain ⟨k, rfl⟩ : ∃ m, k = m + 1 := ⟨k - 1, by omega⟩
    rw [show (((i + 1 : Nat) : Int) - 1) = (i : Int) by omega, back_alt_step s hn k i (by omega), ih k (by omega) (by omega)]
    have hl : lastOf s true (i + 1) = if ends s true i then (i : Int) else lastOf s true i := rfl
    rw [hl]; split <;> rfl
theorem FnGlobLasts : laws_FnGlobLasts.Pure := by
  intro s hs
  unfold laws_FnGlobLasts.f
  by_cases hb : (s.size : Int) > 2147483647
  · exact ⟨0, by rw [if_pos hb]⟩
  have hn : s.size ≤ 2147483647 := by omega
  refine ⟨s.size + 3, ?_⟩
  rw [if_neg hb]
  unfold impl_GlobLastSlash.f doublestar_ZzLastSlash.f doublestar_lastIndexSlash.f impl_GlobLastSlashOrAlt.f doublestar_ZzLastSlashOrAlt.f doublestar_lastIndexSlashOrAlt.f spec_GlobLast.f
  rw [w64 (by omega) (by omega), back_tells s hn s.size _ (by omega) (by omega), back_alt_tells s hn s.size _ (by omega) (by omega)]
  have h1 := spec_tells s false hn s.size (s.size + 3) 0 (by omega) (by omega) (by omega)
  have h2 := spec_tells s true hn s.size (s.size + 3) 0 (by omega) (by omega) (by omega)
  simp only [lastOf] at h1 h2
  have h3 := back_tells ⟨#[97]⟩ (by decide) 1 (s.size + 3) (by decide) (by omega)
  rw [show (((1 : Nat) : Int) - 1) = 0 by rfl] at h3
  have h4 : wrap64 (((⟨#[97]⟩ : ByteArray).size : Int) - 1) = 0 := by simp [wrap64, ByteArray.size]
  have h5 : lastOf ⟨#[97]⟩ false 1 = -1 := by decide
  rw [show ((0 : Nat) : Int) = 0 from rfl] at h1 h2
  rw [h1, h2, h4, h3, h5]
  simp

end Go.Proofs.Ytaljobijdbgohaa.Pure
