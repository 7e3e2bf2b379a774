/- the function that a walk over a B-tree is given. B-trees: the walk over all entries. -/
import Derived.Test.YtjbelfbfhcmgeaaEach0
import Derived.Test.YtjbelfbfhcmgeaaBtB
import Derived.Test.YtjbelfbfhcmgeaaAvl6
import Derived.StillTailTactics
namespace Go.Proofs.Ytjbelfbfhcmgeaa
open Go.RowKit

set_option maxRecDepth 100000 in
set_option maxHeartbeats 3200000 in
theorem bpush_calls (base xb : Nat) (n : Int) (b : Bool) (ks vs : List Int) (ka va : Option Addr) (kc vc : Nat) (k v : Int) (w : World) (h : Tell w base xb n b ks vs ka kc va vc) (hk : ks.length ≤ 100000000000) (hv : vs.length ≤ 100000000000) :
    Calls Try.prog 41 #[.int .i64 k, .int .i64 v, .pointer (some ⟨xb, 0, none⟩)] w fun e w' => e = .returned (.tuple #[]) ∧ (∃ ka' kc' va' vc', Tell w' base xb n b (ks ++ [k]) (vs ++ [v]) ka' kc' va' vc') ∧ FrB base [xb] w w' := by
  obtain ⟨i0, hi0, hz0, hz1, hz2⟩ := info_parts Try.info3
  have p0 : Put1 w base xb n b ks vs ka va kc vc w := ⟨h.keys, h.vals, h.blk, FrB.refl _ _ _, h.le, h.lt, h.apart⟩
  have pa := (p0.alloc (Obj.cells #[Value.int .i64 k] 3)).drew
  have pb := ((p0.alloc (Obj.cells #[Value.int .i64 k] 3)).alloc (Obj.cells #[Value.int .i64 v] 3)).drew
  have pc := ((p0.alloc (Obj.cells #[Value.int .i64 v] 3)).alloc (Obj.cells #[Value.int .i64 k] 3)).drew
  have hk0 := h.keys
  have c2 : w.cell? ⟨xb, 2, none⟩ = some (.slice ka ks.length kc) := h.blk.cell 2
  have c3 : w.cell? ⟨xb, 3, none⟩ = some (.slice va vs.length vc) := h.blk.cell 3
  have xl : xb < w.heap.size := h.blk.lt
  clear h p0
  go_enter Try.func41, Try.ntmps41
  go_wp2_with fail
  go_region_law
    ((first
      | (refine step_append_lies _ rfl (.tmp 6) (.tmp 8) 22 rfl base 3 i0 _ 1 8 Try.underlying22 hi0 hz0 hz1 hz2 rfl (by omega) (.slice ka ks.length kc) ks.length (ks.map i64v) (by rfl) (by with_reducible first | exact pa.hk | exact pb.hk | exact pc.hk) _ 1 1 [.int .i64 k] (by rfl) (by rfl) (news1 (by simp)) (fun _ h => by rw [List.mem_singleton.1 h]; rfl) (by omega) (by unfold maxLen; omega) (by omega) (by with_reducible first | exact pa.le | exact pb.le | exact pc.le) _ (by rfl) ?_; intro gg cap w1 hown1 hgrow hat hlt1
         have q1 := put_one (by with_reducible first | exact pa | exact pb | exact pc) hown1 hgrow hat hlt1
         have qm := put_mem (by with_reducible first | exact pa.hk | exact pb.hk | exact pc.hk) hgrow hk0
         obtain ⟨c13, xl1⟩ := q1.c3
         clear hown1 hgrow hat hlt1)
      | (refine step_append_lies _ rfl (.tmp 11) (.tmp 13) 22 rfl base 3 i0 _ 1 8 Try.underlying22 hi0 hz0 hz1 hz2 rfl (by omega) (.slice va vs.length vc) vs.length (vs.map i64v) (by rfl) (by with_reducible first | exact q1.hv | exact (q1.alloc _).hv) _ 1 1 [.int .i64 v] (by rfl) (by rfl) (news1 (by first | (simp; done) | (refine qm _ _ (by simp) ?_; simp))) (fun _ h => by rw [List.mem_singleton.1 h]; rfl) (by omega) (by unfold maxLen; omega) (by omega) (by with_reducible first | exact q1.le | exact (q1.alloc _).le) _ (by rfl) ?_; intro gv capv w2 hown2 hgrow2 hatv hlt2
         have q2 := put_two (by with_reducible first | exact q1 | exact q1.alloc _) hown2 hgrow2 hatv
         obtain ⟨d2, d3, fz2⟩ := q2.cells
         clear hown2 hgrow2 hatv hlt2)))
  all_goals
    go_wp2
    go_end0
    exact ⟨rfl, put_done q2⟩
end Go.Proofs.Ytjbelfbfhcmgeaa
namespace Go.Proofs.Ytjbelfbfhcmgeaa.Kp
open Go.RowKit Bt

theorem ND.frB {w w' : World} {B : Nat} {S : List Nat} {b : Nat} {rows : List Ent} (h : ND w b rows) (hf : FrB B S w w') (hl : b < B) (hn : b ∉ S) : ND w' b rows := by
  obtain ⟨cs, h1, h2⟩ := h.is; exact ⟨cs, h1.frB hf hl hn, h2⟩
theorem BN.In.frB {w w' : World} {B : Nat} {S : List Nat} (hf : FrB B S w w') : ∀ {h : Nat} {t : BN h}, BN.In w h t → (∀ i ∈ BN.ids h t, i < B ∧ i ∉ S) → BN.In w' h t
  | 0, _, ⟨rows, h1, h2⟩, hn => ⟨rows, h1.frB hf (hn _ (List.mem_singleton.2 rfl)).1 (hn _ (List.mem_singleton.2 rfl)).2, h2⟩
  | h + 1, _, ⟨⟨rows, h1, h2⟩, h3⟩, hn => ⟨⟨rows, h1.frB hf (hn _ (List.mem_cons_self ..)).1 (hn _ (List.mem_cons_self ..)).2, h2⟩, fun e he => BN.In.frB hf (h3 e he) (fun i hi => hn i (List.mem_cons_of_mem _ (List.mem_flatMap.2 ⟨e, he, hi⟩)))⟩
theorem live_append : ∀ A B : List LE, live (A ++ B) = live A ++ live B
  | [], _ => rfl
  | e :: A, B => by
    simp only [List.cons_append, live, live_append A B]
    split <;> rfl
def lk (l : List LE) : List Int := (live l).map Prod.fst
def lv (l : List LE) : List Int := (live l).map Prod.snd
theorem lk_append (A B : List LE) : lk (A ++ B) = lk A ++ lk B := by unfold lk; rw [live_append, List.map_append]
theorem lv_append (A B : List LE) : lv (A ++ B) = lv A ++ lv B := by unfold lv; rw [live_append, List.map_append]
theorem lk_len (A : List LE) : (lk A).length ≤ A.length := by unfold lk; rw [List.length_map]; exact live_len A
theorem lv_len (A : List LE) : (lv A).length ≤ A.length := by unfold lv; rw [List.length_map]; exact live_len A
def entL' (r : Ent) : LE := (r.key, r.val, r.valid)
theorem TellX.drewN {w : World} {base xb : Nat} {n : Int} {b : Bool} {ks vs : List Int} (h : TellX w base xb n b ks vs) (m : Nat) : TellX (w.drewN m) base xb n b ks vs := by
  obtain ⟨ka, kc, va, vc, h⟩ := h; exact ⟨ka, kc, va, vc, h.drewN m⟩
def fnV (xb : Nat) : Value := .func (.func 41) #[] #[.pointer (some ⟨xb, 0, none⟩)]
def EachOk (tb base xb : Nat) (n : Int) (b : Bool) (h : Nat) : Prop := ∀ (t : BN h) (ks vs : List Int) (w : World), BN.In w h t → (∀ i ∈ BN.ids h t, i < base ∧ i ∉ [xb]) → TellX w base xb n b ks vs → ks.length + (flat h (BN.er h t)).length ≤ 100000000000 → vs.length + (flat h (BN.er h t)).length ≤ 100000000000 →
    Calls Try.prog 58 #[.pointer (some ⟨tb, 0, none⟩), .pointer (some ⟨BN.id h t, 0, none⟩), .int .i64 (h : Nat), .func (.func 41) #[] #[.pointer (some ⟨xb, 0, none⟩)]] w fun e w' => e = .returned (.tuple #[]) ∧ TellX w' base xb n b (ks ++ lk (flat h (BN.er h t))) (vs ++ lv (flat h (BN.er h t))) ∧ FrB base [xb] w w'
theorem EachOk.at_ {tb base xb : Nat} {n : Int} {b : Bool} {h : Nat} (H : EachOk tb base xb n b h) (t : BN h) (ks vs : List Int) (w : World) (h1 : BN.In w h t) (h2 : ∀ i ∈ BN.ids h t, i < base ∧ i ∉ [xb]) (h3 : TellX w base xb n b ks vs) (h4 : ks.length + (flat h (BN.er h t)).length ≤ 100000000000) (h5 : vs.length + (flat h (BN.er h t)).length ≤ 100000000000) :
    Calls Try.prog 58 #[.pointer (some ⟨tb, 0, none⟩), .pointer (some ⟨BN.id h t, 0, none⟩), .int .i64 (h : Nat), .func (.func 41) #[] #[.pointer (some ⟨xb, 0, none⟩)]] w fun e w' => e = .returned (.tuple #[]) ∧ TellX w' base xb n b (ks ++ lk (flat h (BN.er h t))) (vs ++ lv (flat h (BN.er h t))) ∧ FrB base [xb] w w' := H t ks vs w h1 h2 h3 h4 h5
theorem take_succ' {α : Type} {l : List α} {k : Nat} {e : α} (h : l[k]? = some e) : l.take (k + 1) = l.take k ++ [e] := by
  rw [List.take_add_one, h]; rfl
set_option maxRecDepth 100000 in
set_option maxHeartbeats 1600000 in
theorem each_zero (tb base xb : Nat) (n : Int) (b : Bool) (b0 : Nat) (rows : List Ent) (ks vs : List Int) (w : World) (hn : ND w b0 rows) (hb : b0 < base ∧ b0 ∉ [xb]) (hx : TellX w base xb n b ks vs) (h1 : ks.length + rows.length ≤ 100000000000) (h2 : vs.length + rows.length ≤ 100000000000) :
    Calls Try.prog 58 #[.pointer (some ⟨tb, 0, none⟩), .pointer (some ⟨b0, 0, none⟩), .int .i64 0, .func (.func 41) #[] #[.pointer (some ⟨xb, 0, none⟩)]] w fun e w' => e = .returned (.tuple #[]) ∧ TellX w' base xb n b (ks ++ lk (rows.map entL')) (vs ++ lv (rows.map entL')) ∧ FrB base [xb] w w' := by
  have HN := Lib.hid hn
  have HB := Lib.hid hb
  have HX := Lib.hid hx
  have hl64 := hn.len
  have H12 := Lib.hid (And.intro h1 h2)
  clear hn hb hx h1 h2
  go_enter Try.func58, Try.ntmps58
  go_wp2_with fail
  go_loopw [8] (fun j wx => ∃ k : Nat, k ≤ rows.length ∧ j = .int .i64 (k : Nat) ∧ Hid (TellX wx base xb n b (ks ++ lk ((rows.take k).map entL')) (vs ++ lv ((rows.take k).map entL')) ∧ FrB base [xb] w wx)) (fun j _ => rows.length - (intOf j).toNat)
  case atStart => exact ⟨0, Nat.zero_le _, rfl, Lib.hid ⟨by simpa [lk, lv, live] using HX.out, FrB.refl _ _ _⟩⟩
  case round =>
    obtain ⟨k, hk, rfl, HK⟩ := hrel
    have HNr := Lib.hid (HN.out.frB HK.out.2 HB.out.1 HB.out.2)
    have cm := HNr.out.m
    by_cases hlt : k < rows.length
    · obtain ⟨e, he⟩ : ∃ e, rows[k]? = some e := ⟨_, List.getElem?_eq_getElem hlt⟩
      obtain ⟨c0, c1, c2, c3⟩ := HNr.out.row he
      have HE := Lib.hid (take_succ' he)
      clear he
      have p1 : (0 : Int) ≤ (k : Int) := by omega
      have p2 : (k : Int) < (64 : Int) := by omega
      have p3 : k < 64 := by omega
      obtain ⟨key, val, valid, next⟩ := e
      simp only at c0 c1 c2 c3
      cases valid with
      | true =>
        have hsn : lk ((rows.take (k + 1)).map entL') = lk ((rows.take k).map entL') ++ [key] ∧ lv ((rows.take (k + 1)).map entL') = lv ((rows.take k).map entL') ++ [val] := by
          rw [HE.out, List.map_append, lk_append, lv_append]; exact ⟨rfl, rfl⟩
        have hlen : (lk ((rows.take k).map entL')).length ≤ k ∧ (lv ((rows.take k).map entL')).length ≤ k := by
          have h1 := lk_len ((rows.take k).map entL')
          have h2 := lv_len ((rows.take k).map entL')
          rw [List.length_map, List.length_take] at h1 h2
          omega
        have HSN := Lib.hid (And.intro hsn hlen)
        clear hsn hlen
        obtain ⟨⟨ka, kc, va, vc, hT⟩, hF0⟩ := HK.out
        have HT := Lib.hid (And.intro hT hF0)
        clear hT hF0
        go_wp2_with fail
        go_still_tail 15, (by kernel_rfl)
        change wpList _ _ _ _ _ (wr.drewN 1)
        go_wp2_with fail
        refine (bpush_calls base xb n b _ _ ka va kc vc key val _ (HT.out.1.drewN 1) (by have := HSN.out.2.1; have := H12.out.1; rw [List.length_append]; omega) (by have := HSN.out.2.2; have := H12.out.2; rw [List.length_append]; omega)).mono ?_
        rintro e' w2 ⟨rfl, hx2, hF2⟩
        have HX2 := Lib.hid (And.intro hx2 (HT.out.2.trans ((FrB.of_below (Below.drewN wr 1)).trans hF2)))
        clear hx2 hF2
        go_wp2_with fail
        refine ⟨⟨k + 1, by omega, by go_num, Lib.hid ⟨?_, HX2.out.2⟩⟩, by simp [intOf]; omega⟩
        rw [HSN.out.1.1, HSN.out.1.2, ← List.append_assoc, ← List.append_assoc]
        exact HX2.out.1
      | false =>
        have hsn : lk ((rows.take (k + 1)).map entL') = lk ((rows.take k).map entL') ∧ lv ((rows.take (k + 1)).map entL') = lv ((rows.take k).map entL') := by
          rw [HE.out, List.map_append, lk_append, lv_append]; exact ⟨List.append_nil _, List.append_nil _⟩
        have HSN := Lib.hid hsn
        clear hsn
        go_wp2_with fail
        refine ⟨⟨k + 1, by omega, by go_num, Lib.hid ⟨?_, HK.out.2⟩⟩, by simp [intOf]; omega⟩
        rw [HSN.out.1, HSN.out.2]
        exact HK.out.1
    · have : k = rows.length := by omega
      subst this
      go_wp2_with fail
      go_end0
      have h := HK.out
      rw [List.take_length] at h
      exact ⟨rfl, h.1, h.2⟩
theorem ks_len (ks : List Int) (A B : List LE) (h : ks.length + (A ++ B).length ≤ 100000000000) : (ks ++ lk A).length + B.length ≤ 100000000000 := by
  have := lk_len A
  rw [List.length_append] at *; omega
theorem vs_len (ks : List Int) (A B : List LE) (h : ks.length + (A ++ B).length ≤ 100000000000) : (ks ++ lv A).length + B.length ≤ 100000000000 := by
  have := lv_len A
  rw [List.length_append] at *; omega
/-- the entries of the first parts. -/
def fl {h : Nat} (k0 : List (Int × BN h)) (k : Nat) : List LE := (k0.take k).flatMap fun e => flat h (BN.er h e.2)
theorem fl_succ {h : Nat} {k0 : List (Int × BN h)} {k : Nat} {e : Int × BN h} (he : k0[k]? = some e) : fl k0 (k + 1) = fl k0 k ++ flat h (BN.er h e.2) := by
  unfold fl; rw [take_succ' he]; simp
theorem fl_all {h : Nat} (b0 : Nat) (k0 : List (Int × BN h)) : flat (h + 1) (BN.er (h + 1) (b0, k0)) = fl k0 k0.length := by
  unfold fl; rw [List.take_length]
  show List.flatMap _ (k0.map _) = _
  rw [List.flatMap_map]
theorem fl_rest {h : Nat} (k0 : List (Int × BN h)) (k : Nat) : ∃ R, fl k0 k0.length = fl k0 k ++ R := by
  unfold fl; rw [List.take_length]
  exact ⟨(k0.drop k).flatMap fun e => flat h (BN.er h e.2), by rw [← List.flatMap_append, List.take_append_drop]⟩
set_option maxRecDepth 100000 in
set_option maxHeartbeats 1600000 in
theorem each_succ (tb base xb : Nat) (n : Int) (b : Bool) (h : Nat) (ih : EachOk tb base xb n b h) (hh : h ≤ 1000000000000) (b0 : Nat) (k0 : List (Int × BN h)) (ks vs : List Int) (w : World) (hin : InnerIn w (BN.id h) (BN.In w h) (b0, k0)) (hb : ∀ i ∈ BN.ids (h + 1) (b0, k0), i < base ∧ i ∉ [xb]) (hx : TellX w base xb n b ks vs) (h1 : ks.length + (fl k0 k0.length).length ≤ 100000000000) (h2 : vs.length + (fl k0 k0.length).length ≤ 100000000000) :
    Calls Try.prog 58 #[.pointer (some ⟨tb, 0, none⟩), .pointer (some ⟨b0, 0, none⟩), .int .i64 ((h : Int) + 1), .func (.func 41) #[] #[.pointer (some ⟨xb, 0, none⟩)]] w fun e w' => e = .returned (.tuple #[]) ∧ TellX w' base xb n b (ks ++ lk (fl k0 k0.length)) (vs ++ lv (fl k0 k0.length)) ∧ FrB base [xb] w w' := by
  obtain ⟨⟨rows, hn, hrows⟩, hkids⟩ := hin
  simp only at hn hrows hkids
  have hlen : k0.length = rows.length := by have := congrArg List.length hrows; simpa using this.symm
  have HN := Lib.hid hn
  have HK0 := Lib.hid hkids
  have HB := Lib.hid hb
  have HX := Lib.hid hx
  have HR := Lib.hid hrows
  have HL := Lib.hid hlen
  have hl64 := hn.len
  have IH := Lib.hid ih
  have H12 := Lib.hid (And.intro h1 h2)
  have hz : ((h : Int) + 1 == 0) = false := by rw [beq_eq_false_iff_ne]; omega
  have hhw : IntKind.i64.wrap (h : Int) = (h : Int) := IntWalk.i64_in _ (by omega)
  clear hn hb hx h1 h2 hkids hrows hlen ih
  go_enter Try.func58, Try.ntmps58
  go_wp2_with fail
  go_loopw [9] (fun j wx => ∃ k : Nat, k ≤ rows.length ∧ j = .int .i64 (k : Nat) ∧ Hid (TellX wx base xb n b (ks ++ lk (fl k0 k)) (vs ++ lv (fl k0 k)) ∧ FrB base [xb] w wx)) (fun j _ => rows.length - (intOf j).toNat)
  case atStart => exact ⟨0, Nat.zero_le _, rfl, Lib.hid ⟨by simpa [lk, lv, live, fl] using HX.out, FrB.refl _ _ _⟩⟩
  case round =>
    obtain ⟨k, hk, rfl, HK⟩ := hrel
    have hb0 := HB.out b0 (List.mem_cons_self ..)
    have HNr := Lib.hid (HN.out.frB HK.out.2 hb0.1 hb0.2)
    have cm := HNr.out.m
    clear hb0
    by_cases hlt : k < rows.length
    · obtain ⟨e, he⟩ : ∃ e, rows[k]? = some e := ⟨_, List.getElem?_eq_getElem hlt⟩
      obtain ⟨c0, c1, c2, c3⟩ := HNr.out.row he
      have hkk : k < k0.length := by have := HL.out; omega
      have hc : k0[k]? = some (k0[k]'hkk) := List.getElem?_eq_getElem _
      generalize k0[k]'hkk = c at hc
      have hnx : e.next = some ⟨BN.id h c.2, 0, none⟩ := by
        have h1 : (rows.map (fun r => (r.key, r.next)))[k]? = some (e.key, e.next) := by rw [List.getElem?_map, he]; rfl
        rw [HR.out, List.getElem?_map, hc] at h1
        simp only [Option.map_some, Option.some.injEq, kidP, Prod.mk.injEq] at h1
        exact h1.2.symm
      rw [hnx] at c3
      have hm : c ∈ k0 := List.mem_of_getElem? hc
      have hcb : ∀ i ∈ BN.ids h c.2, i < base ∧ i ∉ [xb] := fun i hi => HB.out i (List.mem_cons_of_mem _ (List.mem_flatMap.2 ⟨c, hm, hi⟩))
      have hcn : BN.In wr h c.2 := (HK0.out c hm).frB HK.out.2 hcb
      obtain ⟨R, hR⟩ := fl_rest k0 (k + 1)
      rw [fl_succ hc, List.append_assoc] at hR
      have HC := Lib.hid (And.intro (fl_succ hc) (And.intro hcb (And.intro hcn (And.intro (show (ks ++ lk (fl k0 k)).length + (flat h (BN.er h c.2)).length ≤ 100000000000 by
        have := ks_len ks _ _ (hR ▸ H12.out.1); simp only [List.length_append] at this ⊢; omega) (show (vs ++ lv (fl k0 k)).length + (flat h (BN.er h c.2)).length ≤ 100000000000 by
        have := vs_len vs _ _ (hR ▸ H12.out.2); simp only [List.length_append] at this ⊢; omega)))))
      clear hnx he hc hm hcb hcn hR hkk
      have p1 : (0 : Int) ≤ (k : Int) := by omega
      have p2 : (k : Int) < (64 : Int) := by omega
      have p3 : k < 64 := by omega
      go_wp2_with fail
      (with_reducible refine (IH.out.at_ c.2 _ _ wr HC.out.2.2.1 HC.out.2.1 HK.out.1 HC.out.2.2.2.1 HC.out.2.2.2.2).mono ?_)
      rintro e' w2 ⟨rfl, hT, hF⟩
      have HT := Lib.hid (And.intro hT (HK.out.2.trans hF))
      clear hT hF
      go_wp2_with fail
      refine ⟨⟨k + 1, by omega, by go_num, Lib.hid ⟨?_, HT.out.2⟩⟩, by simp [intOf]; omega⟩
      rw [HC.out.1, lk_append, lv_append, ← List.append_assoc, ← List.append_assoc]
      exact HT.out.1
    · have : k = k0.length := by have := HL.out; omega
      have h := HK.out
      rw [this] at h
      have h' := Lib.hid h
      clear h this
      go_wp2_with fail
      go_end0
      exact ⟨rfl, h'.out.1, h'.out.2⟩
theorem each_calls' (tb base xb : Nat) (n : Int) (b : Bool) : ∀ h : Nat, h ≤ 1000000000000 → EachOk tb base xb n b h := by
  intro h
  induction h with
  | zero =>
    intro _ t ks vs w hin hb hx h1 h2
    obtain ⟨b0, es⟩ : Nat × List LE := t
    obtain ⟨rows, hn, he⟩ : LeafIn w (b0, es) := hin
    have e1 : flat 0 (BN.er 0 (b0, es)) = rows.map entL' := he.symm
    have e2 : (flat 0 (BN.er 0 (b0, es))).length = rows.length := by rw [e1]; simp
    rw [e2] at h1 h2
    rw [e1]
    exact each_zero tb base xb n b b0 rows ks vs w hn (hb b0 (List.mem_singleton.2 rfl)) hx h1 h2
  | succ h ih =>
    intro hh t ks vs w hin hb hx h1 h2
    obtain ⟨b0, k0⟩ : Nat × List (Int × BN h) := t
    rw [fl_all] at h1 h2 ⊢
    exact each_succ tb base xb n b h (ih (by omega)) (by omega) b0 k0 ks vs w hin hb hx h1 h2
end Go.Proofs.Ytjbelfbfhcmgeaa.Kp
