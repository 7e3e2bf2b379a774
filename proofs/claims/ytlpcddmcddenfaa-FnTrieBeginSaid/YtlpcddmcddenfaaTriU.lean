/- tries in memory: Remove, LongestPrefix, Keys, KeysWithPrefix. -/
import Derived.Test.YtlpcddmcddenfaaTriT
import Derived.WalkSpells
import Derived.Lib.Strings
namespace Go.Proofs.Ytlpcddmcddenfaa.Kp
open Go.RowKit Tri

set_option maxHeartbeats 1000000 in
theorem Remove_calls (w : World) (B tb : Nat) (s : St) (t : TN) (K : Txt) (H : TT w B tb s t) (hB : B ≤ w.heap.size) (hK : K.length ≤ 2147483647) (hn : -4294967296 ≤ s.n ∧ s.n ≤ 4294967296) :
    Calls Try.prog 26 #[.pointer (some ⟨tb, 0, none⟩), str K] w fun e w' => e = .returned (.tuple #[]) ∧ ∃ t', TS w B tb t (remW K s) t' w' := by
  have hsz := size_str K
  by_cases h0 : K = []
  · have e : remW K s = s := by unfold remW; rw [if_pos h0]
    rw [e]
    have h1 : K.length = 0 := by rw [h0]; rfl
    clear e h0
    have HH := Lib.hid H
    clear H
    go_enter Try.func26, Try.ntmps26
    go_wp2
    refine bodyPost_ret (results_none rfl _ _ _) rfl ?_
    exact ⟨rfl, t, HH.out, Fr.refl _ _, fun _ h => .inl h⟩
  · have h1 : 0 < K.length := List.length_pos_iff.2 h0
    have h2 : ¬ K.length = 0 := by omega
    have h3 : ¬ (K.length : Int) = 0 := by omega
    have HT := Lib.hid (rem_calls (.pointer (some ⟨tb, 0, none⟩)) K hK h0 t w H.inn H.nd)
    have hs : remW K s = ⟨s.t.rem K, s.n - 1⟩ := by unfold remW; rw [if_neg h0]
    rw [hs]
    clear hs h0
    have c1 : w.cell? ⟨tb, 1, none⟩ = some (.pointer t.ptr) := H.blk.cell 1
    have HH := Lib.hid H
    clear H
    have hw1 : IntKind.i64.wrap (s.n - 1) = s.n - 1 := IntWalk.i64_in _ (by omega)
    go_enter Try.func26, Try.ntmps26
    go_wp2_with fail
    refine HT.out.mono ?_
    rintro e w2 ⟨t', rfl, ht⟩
    have hb2 := HH.out.blk.fr ht.fr HH.out.htb
    have HT2 := Lib.hid ht
    have HB2 := Lib.hid hb2
    have fr2 := HB2.out.frozen
    have q0 := HB2.out.cell 0
    have q1 := HB2.out.cell 1
    clear ht hb2
    go_wp2_with fail
    go_end0
    have hR := HH.out.root (s' := ⟨s.t.rem K, s.n - 1⟩) hB (by have h := HT2.out; rw [HH.out.er] at h; exact h) ((HB2.out.set 1 (.pointer t'.ptr)).set 0 (.int .i64 (s.n - 1))) ((Fr.setCell w2 tb 1 _ (by simp)).comp (Fr.setCell _ tb 0 _ (by simp)))
    exact ⟨rfl, t', hR⟩
theorem coll_nil (tb : Value) (t : TN) (w : World) (hi : t.In w) (hm : t.er.md ≤ 4294967296) (hk : t.er.keys.length ≤ 4294967296) :
    Calls Try.prog 40 #[tb, .pointer t.ptr, .slice none 0 0, .slice none 0 0] w fun e w' => ∃ q, e = .returned q ∧ w'.ownsRow w.heap.size 9 1 q t.er.keys.length (t.er.keys.map str) ∧ Below w.heap.size w w' := by
  refine (coll_calls tb w.heap.size t w (.slice none 0 0) (.slice none 0 0) [] [] hi (BRow.nil _ _ _) ⟨rfl, .inl ⟨rfl, rfl⟩⟩ (Nat.le_refl _) (by simpa using hm) (by simpa using hk)).mono ?_
  rintro e w' ⟨q, rfl, C⟩
  have ho := C.own
  simp only [List.nil_append, List.map_id'] at ho
  refine ⟨q, rfl, ho, C.fr.below (fun x hx => ?_) (Nat.le_refl _)⟩
  simp [ob, Value.ownBlock] at hx
theorem Keys_calls (w : World) (B tb : Nat) (s : St) (t : TN) (H : TT w B tb s t) (hm : s.t.md ≤ 4294967296) (hk : s.t.keys.length ≤ 4294967296) :
    Calls Try.prog 29 #[.pointer (some ⟨tb, 0, none⟩)] w fun e w' => ∃ q, e = .returned q ∧ w'.ownsRow w.heap.size 9 1 q s.t.keys.length (s.t.keys.map str) ∧ Below w.heap.size w w' := by
  have c1 : w.cell? ⟨tb, 1, none⟩ = some (.pointer t.ptr) := H.blk.cell 1
  rw [← H.er] at hm hk ⊢
  have HC := Lib.hid (coll_nil (.pointer (some ⟨tb, 0, none⟩)) t w H.inn hm hk)
  clear H hm hk
  go_enter Try.func29, Try.ntmps29
  go_wp2_with fail
  refine HC.out.mono ?_
  rintro e w1 ⟨q, rfl, ho, hb⟩
  have HO := Lib.hid (And.intro ho hb)
  clear ho hb
  go_wp2_with fail
  go_ret
  exact ⟨q, rfl, HO.out⟩
theorem run_text_bytes (w : World) (K : Txt) (hl : K.length ≤ 4294967296) (B : Nat) (hB : B ≤ w.heap.size) : ∃ v w', (convert 9 74 (str K)).run Try.prog w = .ok v w' ∧ BRow 5 w' B v K ∧ Below w.heap.size w w' ∧ v.ownBlock = some w.heap.size := by
  have h := run_bytes_of_string (P := Try.prog) w 9 74 5 ⟨K.toArray⟩ Try.underlying9 Try.underlying74 Try.underlying5
  have hml : K.length ≤ maxLen := by unfold maxLen; omega
  rw [size_str] at h
  have hge := grownCap_ge w K.length 0 5
  have hcm := grownCap_le_maxLen w K.length 0 5 hml
  have hrs : (bytesRow ⟨K.toArray⟩ (grownCap w K.length 0 5)).size = grownCap w K.length 0 5 := by
    have hs := size_str K
    unfold bytesRow; simp only [Array.size_append, Array.size_map, Array.size_replicate, List.size_toArray, hs]; omega
  refine ⟨_, _, h, .inr ⟨w.heap.size, grownCap w K.length 0 5, _, _, rfl, hB, heap_alloc_new w.drew _, .inr (Nat.le_refl _), hge, hcm, hrs, ?_⟩, (Below.drewN w 1).alloc (Nat.le_refl _) _, rfl⟩
  apply List.ext_getElem?
  intro j
  rcases Nat.lt_or_ge j K.length with hj | hj
  · rw [List.getElem?_take_of_lt hj, List.getElem?_map, List.getElem?_eq_getElem hj, Array.getElem?_toList, bytesRow_at _ _ _ (by simpa using hj)]
    simp [byteV]
  · rw [List.getElem?_eq_none (by rw [List.length_take]; omega), List.getElem?_eq_none (by simpa using hj)]
theorem extract_take (K : Txt) (n : Nat) : (ByteArray.mk K.toArray).extract 0 n = ⟨(K.take n).toArray⟩ := by
  apply ByteArray.ext
  apply Array.toList_inj.1
  rw [Lib.extract_data]
  simp
set_option maxHeartbeats 2000000 in
theorem Longest_calls (w : World) (B tb : Nat) (s : St) (t : TN) (K : Txt) (H : TT w B tb s t) (hK : K.length ≤ 2147483647) :
    Calls Try.prog 31 #[.pointer (some ⟨tb, 0, none⟩), str K] w fun e w' => e = .returned (str (K.take (s.t.long K))) ∧ w = w' := by
  have hsz := size_str K
  by_cases h0 : K = []
  · have e : str (K.take (s.t.long K)) = str [] := by rw [h0]; simp
    rw [e]
    have h1 : K.length = 0 := by rw [h0]; rfl
    clear e h0 H
    go_enter Try.func31, Try.ntmps31
    go_wp2
    go_ret
    exact ⟨rfl, rfl⟩
  · have h1 : 0 < K.length := List.length_pos_iff.2 h0
    have h2 : ¬ K.length = 0 := by omega
    have h3 : ¬ (K.length : Int) = 0 := by omega
    have c1 : w.cell? ⟨tb, 1, none⟩ = some (.pointer t.ptr) := H.blk.cell 1
    obtain ⟨lg, hlg⟩ : ∃ lg, lg = s.t.long K := ⟨_, rfl⟩
    rw [← hlg]
    have HL := Lib.hid (show lg = if 0 < t.er.long (K.drop 0) then 0 + t.er.long (K.drop 0) else 0 by rw [hlg, H.er, List.drop_zero]; split <;> omega)
    have HI := Lib.hid H.inn
    have hb0 : ((K.length : Int) == 0) = false := by rw [beq_eq_false_iff_ne]; omega
    obtain ⟨q0, hq0⟩ : ∃ q0, q0 = t.ptr := ⟨_, rfl⟩
    obtain ⟨n0, hn0⟩ : ∃ n0, n0 = t.ids.length := ⟨_, rfl⟩
    rw [← hq0] at c1
    have HQ := Lib.hid (And.intro hq0 hn0)
    clear hlg h0 H hq0 hn0
    go_enter Try.func31, Try.ntmps31
    go_wp2_with fail
    go_loopg [5, 6, 7, 8] n0 (fun kq v5 v6 v7 v8 wr => ∃ (ln i : Nat) (q : Option Addr), v5 = .int .i64 ln ∧ v6 = .pointer q ∧ v7 = .int .i64 i ∧ Hid (∃ u : TN, q = u.ptr ∧ u.In w ∧ u.ids.length = kq ∧ i ≤ K.length ∧ ln ≤ i ∧ lg = if 0 < u.er.long (K.drop i) then i + u.er.long (K.drop i) else ln) ∧ wr = w)
    case atStart => exact ⟨0, 0, _, rfl, rfl, rfl, ⟨t, HQ.out.1, HI.out, HQ.out.2.symm, Nat.zero_le _, Nat.le_refl _, HL.out⟩, rfl⟩
    case round =>
      obtain ⟨ln, i, q, rfl, rfl, rfl, HK, rfl⟩ := hrel
      obtain ⟨u, rfl, hin, hk, hi, hln, hlg⟩ := HK.out
      by_cases hil : i < K.length
      · cases u with
        | nil =>
          obtain rfl : lg = ln := hlg
          have hex := extract_take K lg
          have hle : lg ≤ K.length := by omega
          clear HK hk hin
          simp only [TN.ptr]
          go_wp2
          go_ret
          exact ⟨by simp [hex], rfl⟩
        | node p c l m r v b =>
          obtain ⟨⟨p0, p1, p2, p3, p4, p5⟩, pf⟩ := cells_in hin.1
          have hdr := drop_at hil
          have hat := str_at K i hil
          have hil' := hil
          have hids : (TN.node p c l m r v b).ids.length = l.ids.length + m.ids.length + r.ids.length + 1 := by simp [TN.ids]; omega
          simp only [TN.ptr]
          rcases Nat.lt_trichotomy K[i].toNat c.toNat with g1 | g1 | g1
          · have e : (TN.node p c l m r v b).er.long (K.drop i) = l.er.long (K.drop i) := by rw [hdr]; exact if_pos g1
            have HN := Lib.hid (And.intro hin.2.1 (And.intro (hids.symm.trans hk) (e ▸ hlg)))
            have g1' : ((K[i].toNat : Int) < (c.toNat : Int)) := by omega
            clear HK hk hlg hin e hids hdr
            go_wp2_with fail
            go_roundg l.ids.length
            case measure => have := HN.out.2.1; omega
            case rel => exact ⟨ln, i, _, rfl, rfl, rfl, ⟨l, rfl, HN.out.1, rfl, hi, hln, HN.out.2.2⟩, rfl⟩
          · have e : (TN.node p c l m r v b).er.long (K.drop i) = if 0 < m.er.long (K.drop (i + 1)) then m.er.long (K.drop (i + 1)) + 1 else if b then 1 else 0 := by
              rw [hdr]; exact (if_neg (by omega)).trans (if_neg (by omega))
            have hnew : lg = if 0 < m.er.long (K.drop (i + 1)) then (i + 1) + m.er.long (K.drop (i + 1)) else (if b then i + 1 else ln) := by
              rw [e] at hlg
              rw [hlg]
              split
              · rw [if_pos (by omega)]; omega
              · cases b <;> simp
            have HN := Lib.hid (And.intro hin.2.2.1 (And.intro (hids.symm.trans hk) hnew))
            have g1' : ¬ ((K[i].toNat : Int) < (c.toNat : Int)) := by omega
            have g1'' : ¬ ((c.toNat : Int) < (K[i].toNat : Int)) := by omega
            have hw1 : IntKind.i64.wrap ((i : Int) + 1) = (i : Int) + 1 := IntWalk.i64_in _ (by omega)
            clear HK hk hlg hin e hids hdr hnew
            cases b with
            | true =>
              go_wp2_with fail
              go_roundg m.ids.length
              case measure => have := HN.out.2.1; omega
              case rel => exact ⟨i + 1, i + 1, _, by simp, rfl, by simp, ⟨m, rfl, HN.out.1, rfl, by omega, Nat.le_refl _, HN.out.2.2⟩, rfl⟩
            | false =>
              go_wp2_with fail
              go_roundg m.ids.length
              case measure => have := HN.out.2.1; omega
              case rel => exact ⟨ln, i + 1, _, rfl, rfl, by simp, ⟨m, rfl, HN.out.1, rfl, by omega, by omega, HN.out.2.2⟩, rfl⟩
          · have e : (TN.node p c l m r v b).er.long (K.drop i) = r.er.long (K.drop i) := by rw [hdr]; exact (if_neg (by omega)).trans (if_pos g1)
            have HN := Lib.hid (And.intro hin.2.2.2 (And.intro (hids.symm.trans hk) (e ▸ hlg)))
            have g1' : ¬ ((K[i].toNat : Int) < (c.toNat : Int)) := by omega
            have g1'' : ((c.toNat : Int) < (K[i].toNat : Int)) := by omega
            clear HK hk hlg hin e hids hdr
            go_wp2_with fail
            go_roundg r.ids.length
            case measure => have := HN.out.2.1; omega
            case rel => exact ⟨ln, i, _, rfl, rfl, rfl, ⟨r, rfl, HN.out.1, rfl, hi, hln, HN.out.2.2⟩, rfl⟩
      · have hz : u.er.long (K.drop i) = 0 := by
          rw [List.drop_eq_nil_of_le (by omega)]
          cases u <;> rfl
        rw [hz] at hlg
        obtain rfl : lg = ln := hlg
        have hex := extract_take K lg
        have hle : lg ≤ K.length := by omega
        have hil' : ¬ (i : Int) < (K.length : Int) := by omega
        clear HK hk hin hz
        cases u with
        | nil =>
          simp only [TN.ptr]
          go_wp2
          go_ret
          exact ⟨by simp [hex], rfl⟩
        | node p c l m r v b =>
          simp only [TN.ptr]
          go_wp2
          go_ret
          exact ⟨by simp [hex], rfl⟩
end Go.Proofs.Ytlpcddmcddenfaa.Kp
