/- laws.FnTrieOrder: zzFits1, SameSays, the words that are put. -/
import Derived.Test.YtlpcddmcddenfaaTriTn
namespace Go.Proofs.Ytlpcddmcddenfaa.Tri
def neT (a b : Txt) : Bool := !(a == b)
/-- a text is no earlier one's, of the first j. -/
def firstB (ks : List Txt) (i : Nat) : Nat → Bool
  | 0 => neT (ks.getD i []) []
  | j + 1 => firstB ks i j && neT (ks.getD j []) (ks.getD i [])
def putsN (ks : List Txt) : Nat → List WordD
  | 0 => []
  | n + 1 => putsN ks n ++ (if firstB ks n n then [⟨0, ks.getD n [], n⟩] else [])
theorem putsN_len (ks : List Txt) : ∀ n, (putsN ks n).length ≤ n
  | 0 => Nat.le_refl _
  | n + 1 => by
    have := putsN_len ks n
    unfold putsN
    rw [List.length_append]
    split <;> simp <;> omega
theorem neT_iff {a b : Txt} : neT a b = true ↔ a ≠ b := by unfold neT; simp
theorem firstB_spec {ks : List Txt} {i : Nat} : ∀ {j}, firstB ks i j = true → ks.getD i [] ≠ [] ∧ ∀ k, k < j → ks.getD k [] ≠ ks.getD i []
  | 0, h => ⟨neT_iff.1 h, fun k hk => by omega⟩
  | j + 1, h => by
    unfold firstB at h
    rw [Bool.and_eq_true] at h
    obtain ⟨h1, h2⟩ := firstB_spec h.1
    exact ⟨h1, fun k hk => by
      rcases Nat.lt_succ_iff_lt_or_eq.1 hk with hk | rfl
      · exact h2 k hk
      · exact neT_iff.1 h.2⟩
theorem putsN_mem {ks : List Txt} : ∀ {n} {w : WordD}, w ∈ putsN ks n → ∃ i, i < n ∧ w = ⟨0, ks.getD i [], i⟩ ∧ firstB ks i i = true
  | 0, w, h => by simp [putsN] at h
  | n + 1, w, h => by
    unfold putsN at h
    rcases List.mem_append.1 h with h | h
    · obtain ⟨i, h1, h2⟩ := putsN_mem h
      exact ⟨i, by omega, h2⟩
    · split at h
      · rename_i hf
        simp at h
        exact ⟨n, Nat.lt_succ_self _, h, hf⟩
      · simp at h
theorem putsN_puts (ks : List Txt) : ∀ n, Puts (putsN ks n)
  | 0 => ⟨(fun w h => by simp [putsN] at h), List.Pairwise.nil⟩
  | n + 1 => by
    have ih := putsN_puts ks n
    unfold putsN
    split
    · rename_i hf
      obtain ⟨f1, f2⟩ := firstB_spec hf
      refine ⟨fun w h => ?_, ?_⟩
      · rcases List.mem_append.1 h with h | h
        · exact ih.act w h
        · simp at h; subst h; exact ⟨rfl, f1⟩
      · rw [List.pairwise_append]
        refine ⟨ih.nd, List.pairwise_singleton _ _, fun a ha b hb => ?_⟩
        simp at hb
        subst hb
        obtain ⟨i, hi, rfl, _⟩ := putsN_mem ha
        exact f2 i hi
    · rw [List.append_nil]; exact ih
end Go.Proofs.Ytlpcddmcddenfaa.Tri
namespace Go.Proofs.Ytlpcddmcddenfaa.Kp
open Go.RowKit Tri

def fitU (l : List Txt) : Bool := decide (l.length ≤ 2147483647) && l.all (fun a => decide (a.length ≤ 2147483647))
theorem fitU_spec {l : List Txt} (h : fitU l = true) : l.length ≤ 2147483647 ∧ ∀ x ∈ l, x.length ≤ 2147483647 := by
  unfold fitU at h
  rw [Bool.and_eq_true, decide_eq_true_eq, List.all_eq_true] at h
  exact ⟨h.1, fun a ha => by simpa using h.2 a ha⟩
abbrev SlU (w : World) (v : Value) (l : List Txt) : Prop := SlC 1 (fun x => [str x]) w w.heap.size v l
theorem SlU_at {w : World} {B n c : Nat} {A : Option Addr} {l : List Txt} (h : SlC 1 (fun x => [str x]) w B (.slice A n c) l) {i : Nat} (hi : i < l.length) : ∃ b off, A = some ⟨b, off, none⟩ ∧ l.length ≤ c ∧ b < B ∧ b < w.heap.size ∧ w.cell? ⟨b, off + i, none⟩ = some (str (l.getD i [])) := by
  obtain ⟨b, off, a, e, h1, h2, h3, h4, h5⟩ := h.at_ hi
  have := h5 0 _ rfl
  rw [getD_at hi] at h4
  cases h4
  exact ⟨b, off, e, h1, h2, h3, by simpa using this⟩
set_option maxHeartbeats 1000000 in
theorem fits1_calls (lv : Value) (l : List Txt) (w : World) (hl : SlU w lv l) :
    Calls Try.prog 14 #[lv] w fun e w' => e = .returned (.bool (fitU l)) ∧ Below w.heap.size w w' := by
  obtain ⟨A3, c3, rfl⟩ := hl.form
  have HL := Lib.hid hl
  clear hl
  by_cases h0 : (l.length : Int) ≤ 2147483647
  case neg =>
    go_enter Try.func14, Try.ntmps14
    go_wp2
    go_ret
    have e : fitU l = false := by unfold fitU; rw [decide_eq_false (by omega)]; rfl
    exact ⟨by rw [e]; rfl, Below.refl _ _⟩
  go_enter Try.func14, Try.ntmps14
  go_wp2_with fail
  go_loopw [4, 10] (fun _ i wr => ∃ k : Nat, k ≤ l.length ∧ i = .int .i64 (k : Nat) ∧ Hid (wr = w ∧ ∀ a ∈ l.take k, a.length ≤ 2147483647)) (fun _ i _ => l.length - (intOf i).toNat)
  case atStart => exact ⟨0, Nat.zero_le _, rfl, ⟨rfl, fun _ h => by simp at h⟩⟩
  case round =>
    obtain ⟨k, hk, rfl, HB⟩ := hrel
    obtain ⟨rfl, hall⟩ := HB.out
    have HA := Lib.hid hall
    clear hall HB
    by_cases hlt : k < l.length
    · obtain ⟨b, off, rfl, g1, g3, g4, z⟩ := SlU_at HL.out hlt
      obtain ⟨x, hx⟩ : ∃ x, x = l.getD k [] := ⟨_, rfl⟩
      rw [← hx] at z
      have hsz := size_str x
      have HX := Lib.hid hx
      clear hx
      by_cases hf : x.length ≤ 2147483647
      · have hf' : ¬ (2147483647 : Int) < (x.length : Int) := by omega
        have HN := Lib.hid (show ∀ a ∈ l.take (k + 1), a.length ≤ 2147483647 from fun a ha => by
          rw [List.take_add_one, getD_at hlt] at ha
          rcases List.mem_append.1 ha with ha | ha
          · exact HA.out a ha
          · simp at ha; rw [ha, ← List.getD_eq_getElem?_getD, ← HX.out]; exact hf)
        go_wp2_with fail
        exact ⟨⟨k + 1, by omega, by go_num, ⟨by first | trivial | rfl, HN.out⟩⟩, by simp [intOf]; omega⟩
      · have hf' : (2147483647 : Int) < (x.length : Int) := by omega
        have e : fitU l = false := by
          unfold fitU
          rw [show l.all _ = false from by
            rw [List.all_eq_false]
            exact ⟨x, by rw [HX.out]; exact List.mem_of_getElem? (getD_at hlt), by simpa using hf⟩, Bool.and_false]
        go_wp2_with fail
        go_ret
        exact ⟨by rw [e]; rfl, Below.refl _ _⟩
    · have : k = l.length := by omega
      subst this
      have ha := HA.out
      rw [List.take_length] at ha
      have HH := Lib.hid ha
      clear ha HA
      go_wp2_with fail
      go_ret
      have e : fitU l = true := by
        unfold fitU
        rw [decide_eq_true (by omega), Bool.true_and, List.all_eq_true]
        exact fun a ha => by simpa using HH.out a ha
      exact ⟨by rw [e]; rfl, Below.refl _ _⟩
set_option maxHeartbeats 1600000 in
theorem sameSays_calls (act : Int) (d : SaysD) (kv mv : Value) (w : World) (h1 : NX 9 str w kv d.keys) (h2 : NX 9 str w mv d.keys) (hk : d.keys.length ≤ 4294967296) :
    Calls Try.prog 16 #[.int .i64 act, .agg #[.int .i64 d.val, .bool d.ok, str d.key, kv], .agg #[.int .i64 d.val, .bool d.ok, str d.key, mv]] w fun e w' => e = .returned (.bool true) ∧ Below w.heap.size w w' := by
  obtain ⟨A1, c1, rfl⟩ := h1.form
  obtain ⟨A2, c2, rfl⟩ := h2.form
  obtain ⟨val, ok, key, keys⟩ := d
  simp only at h1 h2 hk ⊢
  have hb : Below w.heap.size w ((w.alloc (.cells #[.int .i64 val, .bool ok, str key, .slice A1 keys.length c1] 31)).alloc (.cells #[.int .i64 val, .bool ok, str key, .slice A2 keys.length c2] 31)) := ((Below.refl _ w).alloc (Nat.le_refl _) _).alloc (by simp) _
  have HC := Lib.hid (sameWords_calls _ _ keys _ (h1.below hb) (h2.below hb) hk)
  have hx := (Blk.new w #[.int .i64 val, .bool ok, str key, .slice A1 keys.length c1] 31).alloc (.cells #[.int .i64 val, .bool ok, str key, .slice A2 keys.length c2] 31)
  have hy := Blk.new (w.alloc (.cells #[.int .i64 val, .bool ok, str key, .slice A1 keys.length c1] 31)) #[.int .i64 val, .bool ok, str key, .slice A2 keys.length c2] 31
  rw [show (w.alloc (.cells #[.int .i64 val, .bool ok, str key, .slice A1 keys.length c1] 31)).heap.size = w.heap.size + 1 by simp] at hy
  have HB := Lib.hid (And.intro hb (And.intro hx hy))
  clear hb hx hy h1 h2
  go_enter Try.func16, Try.ntmps16
  go_wp2_with fail
  refine HC.out.mono ?_
  rintro e w1 ⟨rfl, b1⟩
  obtain ⟨hb, hx, hy⟩ := HB.out
  have hx1 := hx.below b1 hx.lt
  have hy1 := hy.below b1 hy.lt
  have x0 := hx1.cell 0
  have x1 := hx1.cell 1
  have y0 := hy1.cell 0
  have y1 := hy1.cell 1
  simp only [List.getElem?_toArray] at x0 x1 y0 y1
  have HE := Lib.hid (hb.trans (b1.mono hb.size))
  clear hb hx hy hx1 hy1 b1
  by_cases h2 : act = 2
  · subst h2
    cases ok <;> (go_wp2_with fail; go_ret; exact ⟨rfl, HE.out⟩)
  · have h2' : (act == 2) = false := by rw [beq_eq_false_iff_ne]; exact h2
    go_wp2_with fail
    go_ret
    exact ⟨rfl, HE.out⟩
end Go.Proofs.Ytlpcddmcddenfaa.Kp
