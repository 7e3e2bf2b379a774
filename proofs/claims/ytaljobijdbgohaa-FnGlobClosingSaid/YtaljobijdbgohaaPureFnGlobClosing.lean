/- FnGlobClosing: the place of the brace that closes one that was opened just ahead is told, in any text without classes of at most 2^31 - 1 bytes (the statement asks no more of longer ones, nor of those with a bracket); so is the first comma outside of all of them. -/
import Derived.Test.YtaljobijdbgohaaPFnGlobClosingx3
namespace Go.Proofs.Ytaljobijdbgohaa.Pure
open Go.RowKit Go.Proofs.Ytaljobijdbgohaa.PFnGlobClosing Go.Proofs.YtaljobijdbgohaaW.PrintWords Go.Proofs.YtaljobijdbgohaaW.PrintLast

theorem w64 {i : Int} (h0 : -4000000000 ≤ i) (h : i ≤ 4000000000) : wrap64 i = i := by unfold wrap64; omega
/-- the place behind a sign. -/
def nxt (s : ByteArray) (esc : Bool) (i : Int) : Int := if esc = true ∧ bt s i = 92 then i + 2 else i + 1
theorem skip_tells (s : ByteArray) (esc : Bool) (i : Int) (h0 : 0 ≤ i) (h1 : i < s.size) (hn : s.size ≤ 2147483647) : spec_globSkip.f s i esc = some (nxt s esc i) := by
  unfold spec_globSkip.f nxt
  rw [if_pos h0, if_pos h1, w64 (by omega) (by omega), w64 (by omega) (by omega)]
  cases esc <;> by_cases h : bt s i = 92 <;> simp [h]
/-- where the brace is closed: d braces are open; fuel n. -/
def clo (s : ByteArray) (esc : Bool) : Nat → Int → Int → Int
  | 0, _, _ => -1
  | n + 1, d, i =>
    if i < s.size then
      if bt s i = 125 ∧ d = 1 then i
      else clo s esc n (if bt s i = 123 then d + 1 else if bt s i = 125 then d - 1 else d) (nxt s esc i)
    else -1
theorem closes_tells (s : ByteArray) (esc : Bool) (hn : s.size ≤ 2147483647) (n : Nat) : ∀ (k : Nat) (d i : Int), 0 ≤ i → 1 ≤ d → d ≤ i + 1 → (s.size : Int) - i < n → n < k →
    spec_GlobCloses.l0 k s esc d i = some (clo s esc n d i) := by
  induction n with
  | zero =>
    intro k d i h0 h1 h2 h3 hk
    obtain ⟨k, rfl⟩ : ∃ m, k = m + 1 := ⟨k - 1, by omega⟩
    simp only [spec_GlobCloses.l0, clo]; rw [if_neg (by omega)]
  | succ n ih =>
    intro k d i h0 h1 h2 h3 hk
    obtain ⟨k, rfl⟩ : ∃ m, k = m + 1 := ⟨k - 1, by omega⟩
    have hnx : i + 1 ≤ nxt s esc i := by unfold nxt; split <;> omega
    simp only [spec_GlobCloses.l0, clo]
    by_cases hlt : i < s.size
    · rw [if_pos hlt, if_pos hlt, if_pos h0, w64 (by omega) (by omega), w64 (by omega) (by omega), skip_tells s esc i h0 hlt hn]
      simp only [Option.bind_some]
      generalize bt s i = x
      by_cases a : x = 123
      · subst a
        rw [if_pos rfl, if_neg (by omega), if_neg (by omega), if_pos rfl]
        exact ih k _ _ (by omega) (by omega) (by omega) (by omega) (by omega)
      · rw [if_neg a, if_neg a]
        by_cases b : x = 125
        · subst b
          rw [if_pos rfl, if_pos rfl]
          by_cases c : d = 1
          · subst c; simp
          · rw [if_neg (by omega), if_neg (by omega)]
            exact ih k _ _ (by omega) (by omega) (by omega) (by omega) (by omega)
        · rw [if_neg b, if_neg (by omega), if_neg (by omega), if_neg b]
          exact ih k _ _ (by omega) (by omega) (by omega) (by omega) (by omega)
    · rw [if_neg hlt, if_neg hlt]
theorem closing_tells (s : ByteArray) (esc : Bool) (hn : s.size ≤ 2147483647) (hc : ∀ i : Int, 0 ≤ i → i < s.size → bt s i ≠ 91) (n : Nat) : ∀ (k : Nat) (d i : Int), 0 ≤ i → 1 ≤ d → d ≤ i + 1 → (s.size : Int) - i < n → 2 * n < k →
    doublestar_indexMatchedClosingAlt.l0 k s esc d s.size i = some (clo s esc n d i) := by
  induction n with
  | zero =>
    intro k d i h0 h1 h2 h3 hk
    obtain ⟨k, rfl⟩ : ∃ m, k = m + 1 := ⟨k - 1, by omega⟩
    simp only [doublestar_indexMatchedClosingAlt.l0, clo]; rw [if_neg (by omega)]
  | succ n ih =>
    intro k d i h0 h1 h2 h3 hk
    obtain ⟨k, rfl⟩ : ∃ m, k = m + 2 := ⟨k - 2, by omega⟩
    simp only [doublestar_indexMatchedClosingAlt.l0, clo]
    by_cases hlt : i < s.size
    · have key : ∀ q : Bool, (q = true ↔ (esc = true ∧ bt s i = 92)) → doublestar_indexMatchedClosingAlt.j1 (k + 1) s esc d s.size i q =
          some (if bt s i = 125 ∧ d = 1 then i else clo s esc n (if bt s i = 123 then d + 1 else if bt s i = 125 then d - 1 else d) (nxt s esc i)) := by
        intro q hq
        simp only [doublestar_indexMatchedClosingAlt.j1]
        have hb := hc i h0 hlt
        rw [if_pos h0, if_pos hlt, w64 (i := i + 1) (by omega) (by omega), w64 (i := d - 1) (by omega) (by omega), w64 (i := d + 1) (by omega) (by omega), w64 (i := i + 1 + 1) (by omega) (by omega)]
        by_cases e : q = true
        · obtain ⟨e1, e2⟩ := hq.1 e
          rw [if_pos e, e2, if_neg (by omega), if_neg (by omega), if_neg (by omega)]
          have : nxt s esc i = i + 1 + 1 := by unfold nxt; rw [if_pos ⟨e1, e2⟩]; omega
          rw [this]
          exact ih k _ _ (by omega) (by omega) (by omega) (by omega) (by omega)
        · have e' : ¬ (esc = true ∧ bt s i = 92) := fun h => e (hq.2 h)
          have : nxt s esc i = i + 1 := by unfold nxt; rw [if_neg e']
          rw [if_neg e, this, if_neg hb]
          clear hq e e' this
          generalize bt s i = x at *
          by_cases a : x = 123
          · subst a
            rw [if_pos rfl, if_neg (by omega), if_pos rfl]
            exact ih k _ _ (by omega) (by omega) (by omega) (by omega) (by omega)
          · rw [if_neg a, if_neg a]
            by_cases b : x = 125
            · subst b
              rw [if_pos rfl, if_pos rfl]
              by_cases c : d = 1
              · subst c; simp
              · rw [if_neg (by omega), if_neg (by omega)]
                exact ih k _ _ (by omega) (by omega) (by omega) (by omega) (by omega)
            · rw [if_neg b, if_neg (by omega), if_neg b]
              exact ih k _ _ (by omega) (by omega) (by omega) (by omega) (by omega)
      rw [if_pos hlt]
      cases esc with
      | true => rw [if_pos rfl, if_pos h0, if_pos hlt, if_pos hlt, key _ (by simp)]
      | false => rw [if_neg (by simp), if_pos hlt, key _ (by simp)]
    · rw [if_neg hlt, if_neg hlt]
/-- the first comma outside of braces: d braces are open; false: one is closed that was not opened. -/
def com (s : ByteArray) (esc : Bool) : Nat → Int → Int → Int × Bool
  | 0, _, _ => (-1, true)
  | n + 1, d, i =>
    if i < s.size then
      if bt s i = 44 ∧ d = 0 then (i, true)
      else if bt s i = 125 ∧ d = 0 then (-1, false)
      else com s esc n (if bt s i = 123 then d + 1 else if bt s i = 125 then d - 1 else d) (nxt s esc i)
    else (-1, true)
theorem comma_tells (s : ByteArray) (esc : Bool) (hn : s.size ≤ 2147483647) (n : Nat) : ∀ (k : Nat) (d i : Int), 0 ≤ i → 0 ≤ d → d ≤ i → (s.size : Int) - i < n → n < k →
    spec_GlobComma.l0 k s esc d i = some (com s esc n d i) := by
  induction n with
  | zero =>
    intro k d i h0 h1 h2 h3 hk
    obtain ⟨k, rfl⟩ : ∃ m, k = m + 1 := ⟨k - 1, by omega⟩
    simp only [spec_GlobComma.l0, com]; rw [if_neg (by omega)]
  | succ n ih =>
    intro k d i h0 h1 h2 h3 hk
    obtain ⟨k, rfl⟩ : ∃ m, k = m + 1 := ⟨k - 1, by omega⟩
    have hnx : i + 1 ≤ nxt s esc i := by unfold nxt; split <;> omega
    simp only [spec_GlobComma.l0, com]
    by_cases hlt : i < s.size
    · rw [if_pos hlt, if_pos hlt, if_pos h0, w64 (by omega) (by omega), w64 (by omega) (by omega), skip_tells s esc i h0 hlt hn]
      simp only [Option.bind_some]
      generalize bt s i = x
      by_cases a : x = 123
      · subst a
        rw [if_pos rfl, if_neg (by omega), if_neg (by omega), if_neg (by omega), if_pos rfl]
        exact ih k _ _ (by omega) (by omega) (by omega) (by omega) (by omega)
      · rw [if_neg a, if_neg a]
        by_cases b : x = 125
        · subst b
          by_cases c : d = 0
          · subst c; simp
          · rw [if_pos rfl, if_neg (by omega), if_neg (by omega), if_neg (by omega), if_pos rfl]
            exact ih k _ _ (by omega) (by omega) (by omega) (by omega) (by omega)
        · rw [if_neg b, if_neg b]
          by_cases c : x = 44
          · subst c
            by_cases e : d = 0
            · subst e; simp
            · rw [if_pos rfl, if_neg e, if_neg (by omega), if_neg (by omega), if_neg (by omega)]
              exact ih k _ _ (by omega) (by omega) (by omega) (by omega) (by omega)
          · rw [if_neg c, if_neg (by omega), if_neg (by omega), if_neg (by omega)]
            exact ih k _ _ (by omega) (by omega) (by omega) (by omega) (by omega)
    · rw [if_neg hlt, if_neg hlt]
theorem next_tells (s : ByteArray) (esc : Bool) (hn : s.size ≤ 2147483647) (hc : ∀ i : Int, 0 ≤ i → i < s.size → bt s i ≠ 91) (n : Nat) : ∀ (k : Nat) (d i : Int), 0 ≤ i → 0 ≤ d → d ≤ i → (s.size : Int) - i < n → 2 * n < k →
    (com s esc n d i).2 = true → doublestar_indexNextAlt.l0 k s esc (d + 1) s.size i = some (com s esc n d i).1 := by
  induction n with
  | zero =>
    intro k d i h0 h1 h2 h3 hk _
    obtain ⟨k, rfl⟩ : ∃ m, k = m + 1 := ⟨k - 1, by omega⟩
    simp only [doublestar_indexNextAlt.l0, com]; rw [if_neg (by omega)]
  | succ n ih =>
    intro k d i h0 h1 h2 h3 hk
    obtain ⟨k, rfl⟩ : ∃ m, k = m + 2 := ⟨k - 2, by omega⟩
    simp only [doublestar_indexNextAlt.l0, com]
    by_cases hlt : i < s.size
    · have key : ∀ q : Bool, (q = true ↔ (esc = true ∧ bt s i = 92)) →
          (if bt s i = 44 ∧ d = 0 then (i, true) else if bt s i = 125 ∧ d = 0 then (-1, false) else com s esc n (if bt s i = 123 then d + 1 else if bt s i = 125 then d - 1 else d) (nxt s esc i)).2 = true →
          doublestar_indexNextAlt.j1 (k + 1) s esc (d + 1) s.size i q =
          some (if bt s i = 44 ∧ d = 0 then (i, true) else if bt s i = 125 ∧ d = 0 then (-1, false) else com s esc n (if bt s i = 123 then d + 1 else if bt s i = 125 then d - 1 else d) (nxt s esc i)).1 := by
        intro q hq
        simp only [doublestar_indexNextAlt.j1]
        have hb := hc i h0 hlt
        rw [if_pos h0, if_pos hlt, w64 (i := i + 1) (by omega) (by omega), w64 (i := d + 1 - 1) (by omega) (by omega), w64 (i := d + 1 + 1) (by omega) (by omega), w64 (i := i + 1 + 1) (by omega) (by omega)]
        rw [show d + 1 - 1 = (d - 1) + 1 by omega]
        by_cases e : q = true
        · obtain ⟨e1, e2⟩ := hq.1 e
          rw [if_pos e, e2, if_neg (by omega), if_neg (by omega), if_neg (by omega), if_neg (by omega)]
          have : nxt s esc i = i + 1 + 1 := by unfold nxt; rw [if_pos ⟨e1, e2⟩]; omega
          rw [this]
          exact ih k _ _ (by omega) (by omega) (by omega) (by omega) (by omega)
        · have e' : ¬ (esc = true ∧ bt s i = 92) := fun h => e (hq.2 h)
          have : nxt s esc i = i + 1 := by unfold nxt; rw [if_neg e']
          rw [if_neg e, this, if_neg hb]
          clear hq e e' this
          generalize bt s i = x at *
          by_cases a : x = 123
          · subst a
            rw [if_pos rfl, if_neg (by omega), if_neg (by omega), if_pos rfl]
            exact ih k _ _ (by omega) (by omega) (by omega) (by omega) (by omega)
          · rw [if_neg a, if_neg a]
            by_cases b : x = 125
            · subst b
              rw [if_pos rfl, if_neg (by omega), if_pos rfl]
              by_cases c : d = 0
              · subst c; simp
              · rw [if_neg (by omega)]
                exact ih k _ _ (by omega) (by omega) (by omega) (by omega) (by omega)
            · rw [if_neg b]
              by_cases c : x = 44
              · subst c
                by_cases e : d = 0
                · subst e; simp
                · rw [if_pos rfl, if_neg (by omega), if_neg (by omega), if_neg (by omega), if_neg (by omega)]
                  exact ih k _ _ (by omega) (by omega) (by omega) (by omega) (by omega)
              · rw [if_neg c, if_neg (by omega), if_neg (by omega), if_neg b]
                exact ih k _ _ (by omega) (by omega) (by omega) (by omega) (by omega)
      rw [if_pos hlt, if_pos hlt]
      intro hgo
      cases esc with
      | true => rw [if_pos rfl, if_pos h0, if_pos hlt, key _ (by simp) hgo]
      | false => rw [if_neg (by simp), key _ (by simp) hgo]
    · rw [if_neg hlt, if_neg hlt]; intro _; rfl
theorem law_tells (s : ByteArray) (esc : Bool) (hn : s.size ≤ 2147483647)
    (hend : (∀ i : Int, 0 ≤ i → i < s.size → bt s i ≠ 91) → ∀ k, 2 * s.size + 10 < k → ((spec_GlobComma.f k s esc).bind fun bt112 => ((impl_GlobClosingAlt.f k s esc).bind fun t114 => ((spec_GlobCloses.f k s esc).bind fun t115 => (if t114 = t115 then (if bt112.2 = true then ((impl_GlobNextAlt.f k s esc).bind fun t116 => (if t116 = bt112.1 then ((impl_GlobNextAlt.f k (⟨#[]⟩ : ByteArray) esc).bind fun t117 => (some (t117 == (-1)))) else (some false))) else ((impl_GlobNextAlt.f k (⟨#[]⟩ : ByteArray) esc).bind fun t118 => (some (t118 == (-1))))) else (some false))))) = some true)
    (n : Nat) : ∀ (k : Nat) (i : Int), 0 ≤ i → (∀ j : Int, 0 ≤ j → j < i → bt s j ≠ 91) → i ≤ s.size → (s.size : Int) - i = n → 2 * s.size + 11 + n < k → laws_FnGlobClosing.l0 k s esc i = some true := by
  induction n with
  | zero =>
    intro k i h0 hj h1 h2 hk
    obtain ⟨k, rfl⟩ : ∃ m, k = m + 1 := ⟨k - 1, by omega⟩
    simp only [laws_FnGlobClosing.l0]; rw [if_neg (by omega)]
    exact hend (fun j a b => hj j a (by omega)) k (by omega)
  | succ n ih =>
    intro k i h0 hj h1 h2 hk
    obtain ⟨k, rfl⟩ : ∃ m, k = m + 1 := ⟨k - 1, by omega⟩
    simp only [laws_FnGlobClosing.l0]
    rw [if_pos (by omega), if_pos h0, w64 (by omega) (by omega)]
    by_cases e : bt s i = 91
    · rw [if_pos e]
    · rw [if_neg e]
      refine ih k _ (by omega) ?_ (by omega) (by omega) (by omega)
      intro j a b
      by_cases c : j = i
      · rw [c]; exact e
      · exact hj j a (by omega)
theorem FnGlobClosing : laws_FnGlobClosing.Pure := by
  intro s esc hs
  unfold laws_FnGlobClosing.f
  by_cases hb : (s.size : Int) > 2147483647
  · exact ⟨0, by rw [if_pos hb]⟩
  have hn : s.size ≤ 2147483647 := by omega
  refine ⟨4 * s.size + 30, ?_⟩
  rw [if_neg hb]
  refine law_tells s esc hn ?_ s.size _ 0 (by omega) (by omega) (by omega) (by omega) (by omega)
  intro hc k hk
  unfold impl_GlobNextAlt.f doublestar_ZzNextAlt.f doublestar_indexNextAlt.f impl_GlobClosingAlt.f doublestar_ZzClosingAlt.f doublestar_indexMatchedClosingAlt.f spec_GlobComma.f spec_GlobCloses.f
  rw [comma_tells s esc hn (s.size + 1) k 0 0 (by omega) (by omega) (by omega) (by omega) (by omega),
    closing_tells s esc hn hc (s.size + 1) k 1 0 (by omega) (by omega) (by omega) (by omega) (by omega),
    closes_tells s esc hn (s.size + 1) k 1 0 (by omega) (by omega) (by omega) (by omega) (by omega)]
  have he : doublestar_indexNextAlt.l0 k (⟨#[]⟩ : ByteArray) esc 1 ((⟨#[]⟩ : ByteArray).size : Int) 0 = some (-1) := by
    obtain ⟨k, rfl⟩ : ∃ m, k = m + 1 := ⟨k - 1, by omega⟩
    simp [doublestar_indexNextAlt.l0, ByteArray.size]
  rw [he]
  simp only [Option.bind_some, if_true]
  by_cases q : (com s esc (s.size + 1) 0 0).2 = true
  · rw [if_pos q]
    have := next_tells s esc hn hc (s.size + 1) k 0 0 (by omega) (by omega) (by omega) (by omega) (by omega) q
    rw [show (0 : Int) + 1 = 1 from rfl] at this
    rw [this]
    simp
  · rw [if_neg q]; simp

end Go.Proofs.Ytaljobijdbgohaa.Pure
