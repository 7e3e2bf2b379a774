/- B-trees: search. -/
import Derived.Test.YtjbelfbfhcmgeaaBtB
namespace Go.Proofs.Ytjbelfbfhcmgeaa.Kp
open Go.RowKit Bt

/-- what a search begins with: the parts of a node, to be copied. -/
structure SrS (w : World) (b : Nat) (rows : List Ent) (ps : List Value) (W : World) : Prop where
  load : w.rangeAt b 1 ps
  i64 : (Try.prog.info? 85).map (·.size) = some ps.length
  i65 : (Try.prog.info? 85).map (·.size) = some ps.toArray.size
  there : (w.alloc (.cells Try.zeroCells85 85)).there w.heap.size 0 ps.toArray.size
  one : ps.toArray.all (·.oneCell') = true
  eq : W = (w.alloc (.cells Try.zeroCells85 85)).setCells w.heap.size 0 ps
  cp : CP W w.heap.size rows
  bel : Below w.heap.size w W
  size : W.heap.size = w.heap.size + 1
theorem SrS.mk' {w : World} {b : Nat} {rows : List Ent} (h : ND w b rows) : ∃ ps W, SrS w b rows ps W := by
  obtain ⟨ps, p1, p2, p3, p4⟩ := h.parts
  obtain ⟨c1, c2, c3⟩ := copy_new w ps p1
  refine ⟨ps, _, p3, by rw [p1]; exact Try.info64, by rw [Try.info64, ← p1]; rfl, ?_, all_oneCell_toArray p2, rfl, ⟨fun i e he => ?_⟩, c2, c3⟩
  · have := copy_there w
    rw [← p1] at this
    exact this
  · obtain ⟨a0, a1, a2, a3⟩ := p4 i e he
    exact ⟨c1 _ _ a0, c1 _ _ a1, c1 _ _ a2, c1 _ _ a3⟩
def eqAt (xs : List Int) (key : Int) (e : Ent) : Bool := cmpOf xs key e.key == 0
/-- what is found among a leaf's entries. -/
def seekL (xs : List Int) (key : Int) (rows : List Ent) : Int × Bool := match rows.find? (eqAt xs key) with
  | some e => (e.val, e.valid)
  | none => (0, false)
theorem seek_at {xs : List Int} {key : Int} : ∀ {rows : List Ent} {k : Nat} {e : Ent}, rows[k]? = some e → eqAt xs key e = true → (∀ i e', i < k → rows[i]? = some e' → eqAt xs key e' = false) → seekL xs key rows = (e.val, e.valid)
  | [], k, e, h, _, _ => by simp at h
  | a :: rows, 0, e, h, h1, _ => by
    simp at h; subst h
    unfold seekL; rw [List.find?_cons, h1]
  | a :: rows, k + 1, e, h, h1, h2 => by
    have ha := h2 0 a (by omega) rfl
    have ih := seek_at (rows := rows) (k := k) (e := e) (by simpa using h) h1 (fun i e' hi he' => h2 (i + 1) e' (by omega) (by simpa using he'))
    unfold seekL at ih ⊢
    rw [List.find?_cons, ha]; exact ih
theorem seek_none {xs : List Int} {key : Int} {rows : List Ent} (h : ∀ (i : Nat) e', rows[i]? = some e' → eqAt xs key e' = false) : seekL xs key rows = (0, false) := by
  unfold seekL
  rw [List.find?_eq_none.2 (fun e he => by
    obtain ⟨i, hi, e1⟩ := List.mem_iff_getElem.1 he
    rw [h i e (by rw [List.getElem?_eq_getElem hi, e1])]; simp)]
theorem ret_pair {a b c d : Value} (h : (a, b) = (c, d)) : Ending.returned (.tuple #[a, b]) = .returned (.tuple #[c, d]) := by cases h; rfl
set_option maxRecDepth 100000 in
set_option maxHeartbeats 3200000 in
theorem search0_calls (xs : List Int) (tb b : Nat) (f : Value) (rows : List Ent) (key : Int) (w : World) (hs : SR w tb f xs) (hn : ND w b rows) :
    Calls Try.prog 57 #[.pointer (some ⟨tb, 0, none⟩), .pointer (some ⟨b, 0, none⟩), .int .i64 key, .int .i64 0] w fun e w' => e = .returned (.tuple #[.int .i64 (seekL xs key rows).1, .bool (seekL xs key rows).2]) ∧ Below w.heap.size w w' := by
  obtain ⟨ps, W, hss⟩ := SrS.mk' hn
  have HSS := Lib.hid hss
  have HS := Lib.hid (hs.below hss.bel)
  have HN := Lib.hid (hn.below hss.bel hn.lt)
  have hl64 := hn.len
  have HB := Lib.hid hss.bel
  obtain ⟨sk, hsk⟩ : ∃ sk, sk = seekL xs key rows := ⟨_, rfl⟩
  rw [← hsk]
  have HSK := Lib.hid hsk
  clear hss hs hn hsk
  go_enter Try.func57, Try.ntmps57
  go_wp2_with (first
    | (refine wpList_load_mid rfl 85 (.tmp 16) rfl b 1 rfl ps _ HSS.out.load Try.underlying85 rfl HSS.out.i64 ?_)
    | (refine wpList_store_mid rfl 85 (.tmp 10) (.tmp 17) rfl w.heap.size 0 ps.toArray rfl rfl HSS.out.there HSS.out.i65 HSS.out.one ?_))
  rw [← HSS.out.eq]
  go_loopw [11] (fun j wx => ∃ k : Nat, k ≤ rows.length ∧ j = .int .i64 (k : Nat) ∧ Hid ((∀ (i : Nat) e, i < k → rows[i]? = some e → eqAt xs key e = false) ∧ ∃ n, wx = W.drewN n)) (fun j _ => rows.length - (intOf j).toNat)
  case atStart => exact ⟨0, Nat.zero_le _, rfl, Lib.hid ⟨fun i e hi => absurd hi (Nat.not_lt_zero _), 0, rfl⟩⟩
  case round =>
    obtain ⟨k, hk, rfl, HK⟩ := hrel
    obtain ⟨m, hm⟩ := HK.out.2
    have hS : SR wr tb f xs := by rw [hm]; exact HS.out.drewN m
    have cm : wr.cell? ⟨b, 0, none⟩ = some (.int .i64 (rows.length : Nat)) := by rw [hm]; exact HN.out.m
    have cl : wr.cell? ⟨tb, 3, none⟩ = some f := hS.less
    have HSR := Lib.hid hS.ok
    clear hS
    by_cases hlt : k < rows.length
    · obtain ⟨e, he⟩ : ∃ e, rows[k]? = some e := ⟨_, List.getElem?_eq_getElem hlt⟩
      have hcp := (HSS.out.cp.drewN m).row k e he
      rw [← hm] at hcp
      obtain ⟨c0, c1, c2, c3⟩ := hcp
      have HE := Lib.hid he
      have HM := Lib.hid hm
      clear hm he
      have p1 : (0 : Int) ≤ (k : Int) := by omega
      have p2 : (k : Int) < (64 : Int) := by omega
      have p3 : k < 64 := by omega
      cases hq : eqAt xs key e with
      | true =>
        have q1 : (cmpOf xs key e.key == 0) = true := hq
        have HQ := Lib.hid hq
        clear hq
        go_wp2_with fail
        go_quiet ((go_at_call 69; exact Calls.quiet_of (compare_calls xs _ _ _ _ _ (lessOk_drewN HSR.out _))))
        go_wp2_with fail
        go_quiet (fail)
        go_wp2_with fail
        go_ret2
        have hsv : sk = (e.val, e.valid) := by rw [HSK.out]; exact seek_at HE.out HQ.out HK.out.1
        rw [hsv, HM.out]
        exact ⟨rfl, ((HB.out.trans (Below.drewN _ m)).trans (Below.drewN _ _)).trans (Below.drewN _ _)⟩
      | false =>
        have q1 : (cmpOf xs key e.key == 0) = false := hq
        have HQ := Lib.hid hq
        clear hq
        go_wp2_with fail
        go_quiet ((go_at_call 69; exact Calls.quiet_of (compare_calls xs _ _ _ _ _ (lessOk_drewN HSR.out _))))
        go_wp2_with fail
        refine ⟨⟨k + 1, by omega, by go_num, Lib.hid ⟨fun i e' hi he' => ?_, ?_⟩⟩, by simp [intOf]; omega⟩
        · rcases Nat.lt_or_ge i k with h | h
          · exact HK.out.1 i e' h he'
          · obtain rfl : i = k := by omega
            have := HE.out
            rw [this] at he'; cases he'; exact HQ.out
        · rw [HM.out]; exact ⟨_, World.drewN_drewN _ _ _⟩
    · have : k = rows.length := by omega
      subst this
      have HM := Lib.hid hm
      clear hm
      go_wp2_with fail
      go_ret2
      have hsv : sk = (0, false) := by rw [HSK.out]; exact seek_none (fun i e' he' => HK.out.1 i e' (List.getElem?_eq_some_iff.1 he').1 he')
      rw [hsv, HM.out]
      exact ⟨rfl, HB.out.trans (Below.drewN _ m)⟩
end Go.Proofs.Ytjbelfbfhcmgeaa.Kp
