/- impl.each$1, each$2, Node.Each, EachReverse, impl.each. -/
import Derived.Test.YtinajjceojfflaaLB1
import Derived.Test.YtinajjceojfflaaQEach
namespace Go.Proofs.Ytinajjceojfflaa
open Go.RowKit

/-- what is collected, in a block of its own. -/
structure OutT (w : World) (base xb : Nat) (ks : List Int) (ka : Option Addr) (kc : Nat) : Prop where
  blk : Blk w xb #[.slice ka ks.length kc] 22
  keys : w.ownsRow base 3 1 (.slice ka ks.length kc) ks.length (ks.map i64v)
  lt : xb < base
  le : base ≤ w.heap.size
def OutX (w : World) (base xb : Nat) (ks : List Int) : Prop := ∃ ka kc, OutT w base xb ks ka kc
theorem OutT.next {w w1 : World} {base xb : Nat} {ks : List Int} {ka : Option Addr} {kc : Nat} (h : OutT w base xb ks ka kc) (o : Obj) (hg : (w.alloc o).grownBy w1 (Value.slice ka ks.length kc).ownBlock) : Blk w1 xb #[.slice ka ks.length kc] 22 ∧ FrB base [xb] w w1 := by
  have nk : some xb ≠ (Value.slice ka ks.length kc).ownBlock := fun e => by have := (h.keys.lt _ e.symm).1; have := h.lt; omega
  exact ⟨(h.blk.alloc _).grown hg nk, ((FrB.refl base [xb] w).alloc h.le o).grown hg (by have := h.le; simp; omega) (fun g e => (h.keys.lt g e).1)⟩
def eachNo (back : Bool) : Nat := if back then 103 else 104
set_option maxHeartbeats 1600000 in
set_option maxRecDepth 100000 in
theorem each1_calls (base xb : Nat) (ks : List Int) (ka : Option Addr) (kc : Nat) (k : Int) (w : World) (h : OutT w base xb ks ka kc) (hk : ks.length ≤ 100000000000) :
    Calls Try.prog 103 #[.int .i64 k, .pointer (some ⟨xb, 0, none⟩)] w fun e w' => e = .returned (.tuple #[]) ∧ OutX w' base xb (ks ++ [k]) ∧ FrB base [xb] w w' := by
  obtain ⟨i0, hi0, hz0, hz1, hz2⟩ := info_parts Try.infoI
  have c2 : w.cell? ⟨xb, 0, none⟩ = some (.slice ka ks.length kc) := h.blk.cell 0
  have fz := h.blk.frozen
  have hown := h.keys
  have hle := h.le
  have HH := Lib.hid h
  clear h
  go_enter Try.func103, Try.ntmps103
  go_wp2_with (at_builtin; refine wpList_append_own _ rfl (.tmp 3) (.tmp 5) 22 rfl base 3 i0 _ 1 8 Try.underlying22 hi0 hz0 hz1 hz2 rfl (by omega) (.slice ka ks.length kc) ks.length _ rfl (hown.alloc _) ⟨w.heap.size, 0, none⟩ 1 1 [.int .i64 k] rfl rfl (news1 ((Blk.new w #[.int .i64 k] 3).cell 0)) (by simp [Value.oneCell']) (by unfold maxLen; omega) (by omega) (by simp; omega) ?_; intro v' w1 hown1 hgrow _; obtain ⟨A1, c1, rfl⟩ := own_form hown1; obtain ⟨hb1, hf1⟩ := HH.out.next _ hgrow; have d2 := hb1.cell 0; have fz1 := hb1.frozen; have xl := HH.out.lt; have xle := hf1.size; clear hgrow)
  go_end0
  refine ⟨rfl, ⟨A1, c1, ?_, ?_, xl, ?_⟩, hf1.trans (FrB.setCell _ xb 0 _ (by simp))⟩
  · rw [List.length_append]; exact hb1.set 0 _
  · rw [List.length_append, List.map_append]; exact own_setOther hown1 xl
  · simp [World.setCell]; omega
set_option maxHeartbeats 1600000 in
set_option maxRecDepth 100000 in
theorem each2_calls (base xb : Nat) (ks : List Int) (ka : Option Addr) (kc : Nat) (k : Int) (w : World) (h : OutT w base xb ks ka kc) (hk : ks.length ≤ 100000000000) :
    Calls Try.prog 104 #[.int .i64 k, .pointer (some ⟨xb, 0, none⟩)] w fun e w' => e = .returned (.tuple #[]) ∧ OutX w' base xb (ks ++ [k]) ∧ FrB base [xb] w w' := by
  obtain ⟨i0, hi0, hz0, hz1, hz2⟩ := info_parts Try.infoI
  have c2 : w.cell? ⟨xb, 0, none⟩ = some (.slice ka ks.length kc) := h.blk.cell 0
  have fz := h.blk.frozen
  have hown := h.keys
  have hle := h.le
  have HH := Lib.hid h
  clear h
  go_enter Try.func104, Try.ntmps104
  go_wp2_with (at_builtin; refine wpList_append_own _ rfl (.tmp 3) (.tmp 5) 22 rfl base 3 i0 _ 1 8 Try.underlying22 hi0 hz0 hz1 hz2 rfl (by omega) (.slice ka ks.length kc) ks.length _ rfl (hown.alloc _) ⟨w.heap.size, 0, none⟩ 1 1 [.int .i64 k] rfl rfl (news1 ((Blk.new w #[.int .i64 k] 3).cell 0)) (by simp [Value.oneCell']) (by unfold maxLen; omega) (by omega) (by simp; omega) ?_; intro v' w1 hown1 hgrow _; obtain ⟨A1, c1, rfl⟩ := own_form hown1; obtain ⟨hb1, hf1⟩ := HH.out.next _ hgrow; have d2 := hb1.cell 0; have fz1 := hb1.frozen; have xl := HH.out.lt; have xle := hf1.size; clear hgrow)
  go_end0
  refine ⟨rfl, ⟨A1, c1, ?_, ?_, xl, ?_⟩, hf1.trans (FrB.setCell _ xb 0 _ (by simp))⟩
  · rw [List.length_append]; exact hb1.set 0 _
  · rw [List.length_append, List.map_append]; exact own_setOther hown1 xl
  · simp [World.setCell]; omega
theorem DL.not_out {w : World} {lb base xb : Nat} {ns : List (Nat × Int)} {ks : List Int} (hd : DL w lb ns) (hx : OutX w base xb ks) : ∀ a ∈ idsOf ns, a ∉ [xb] := by
  intro a ha e
  obtain ⟨p, hp, rfl⟩ := List.mem_map.1 ha
  obtain ⟨i, hi, rfl⟩ := List.getElem_of_mem hp
  obtain ⟨ka, kc, hT⟩ := hx
  simp at e
  exact blk_ne (hd.nodes i _ (List.getElem?_eq_getElem hi)) hT.blk (by decide) e
set_option maxHeartbeats 1600000 in
theorem nodeEach2_calls (base xb lb : Nat) (ns : List (Nat × Int)) (s : Nat) (hs : s ≤ ns.length) (w : World) (hd : DL w lb ns) (hx : OutX w base xb []) (hlt : ∀ a ∈ idsOf ns, a < base) (hk : ns.length ≤ 100000000000) :
    Calls Try.prog 81 #[.pointer (idAt ns s), .func (.func 104) #[] #[.pointer (some ⟨xb, 0, none⟩)]] w fun e w' => e = .returned (.tuple #[]) ∧ OutX w' base xb ((ns.drop s).map Prod.snd) ∧ FrB base [xb] w w' := by
  have hne := hd.not_out hx
  have HD := Lib.hid hd
  have HX := Lib.hid hx
  have HL := Lib.hid hlt
  have HN := Lib.hid hne
  clear hd hx hlt hne
  go_enter Try.func81, Try.ntmps81
  go_wp2_with fail
  go_loopg [4] (ns.length - s) (fun kq v wr => ∃ k : Nat, s + k + kq = ns.length ∧ v = .pointer (idAt ns (s + k)) ∧ Hid (OutX wr base xb (((ns.drop s).take k).map Prod.snd) ∧ FrB base [xb] w wr))
  case atStart => exact ⟨0, by omega, rfl, ⟨by simpa using HX.out, FrB.refl _ _ _⟩⟩
  case round =>
    obtain ⟨k, hkk, rfl, HK⟩ := hrel
    by_cases hl : s + k < ns.length
    · obtain ⟨⟨z, y⟩, hzy⟩ : ∃ p, ns[s + k]? = some p := ⟨_, List.getElem?_eq_getElem hl⟩
      have hm : z ∈ idsOf ns := List.mem_map_of_mem (f := Prod.fst) (List.mem_of_getElem? hzy)
      have hz := (HD.out.nodes _ _ hzy).frB HK.out.2 (HL.out z hm) (HN.out z hm)
      rw [idAt_some hzy]
      have z0 : wr.cell? ⟨z, 0, none⟩ = some (.int .i64 y) := hz.cell 0
      have HZ := Lib.hid (And.intro hz (And.intro hzy hm))
      have hlen : (((ns.drop s).take k).map Prod.snd).length ≤ 100000000000 := by rw [List.length_map, List.length_take]; omega
      obtain ⟨ka, kc, hT⟩ := HK.out.1
      have HC := Lib.hid (each2_calls base xb _ ka kc y wr hT hlen)
      clear hz hzy hm hT hlen
      go_wp2_with fail
      refine HC.out.mono ?_
      rintro e w1 ⟨rfl, hx1, hf1⟩
      obtain ⟨hz, hzy, hm⟩ := HZ.out
      have hz1 := hz.frB hf1 (HL.out z hm) (HN.out z hm)
      have z2 : w1.cell? ⟨z, 2, none⟩ = some (.pointer (idAt ns (s + k + 1))) := hz1.cell 2
      have HE := Lib.hid (show OutX w1 base xb (((ns.drop s).take (k + 1)).map Prod.snd) ∧ FrB base [xb] w w1 by
        refine ⟨?_, HK.out.2.trans hf1⟩
        have e : (ns.drop s)[k]? = some (z, y) := by rw [List.getElem?_drop]; exact hzy
        rw [List.take_add_one, e, Option.toList_some, List.map_append]; exact hx1)
      clear hx1 hf1 hz hzy hm hz1 z0
      go_wp2_with fail
      go_roundg (gk - 1)
      case measure => omega
      case rel => exact ⟨k + 1, by omega, rfl, HE.out⟩
    · obtain rfl : k = ns.length - s := by omega
      rw [idAt_ge (show ns.length ≤ s + (ns.length - s) by omega)]
      go_wp2_with fail
      go_end0
      have := HK.out
      rw [← List.length_drop, List.take_length] at this
      exact ⟨rfl, this⟩
set_option maxHeartbeats 1600000 in
theorem nodeBack_calls (base xb lb : Nat) (ns : List (Nat × Int)) (s : Nat) (hs : s ≤ ns.length) (w : World) (hd : DL w lb ns) (hx : OutX w base xb []) (hlt : ∀ a ∈ idsOf ns, a < base) (hk : ns.length ≤ 100000000000) :
    Calls Try.prog 102 #[.pointer (prevAt ns s), .func (.func 103) #[] #[.pointer (some ⟨xb, 0, none⟩)]] w fun e w' => e = .returned (.tuple #[]) ∧ OutX w' base xb (((ns.take s).map Prod.snd).reverse) ∧ FrB base [xb] w w' := by
  have hne := hd.not_out hx
  have HD := Lib.hid hd
  have HX := Lib.hid hx
  have HL := Lib.hid hlt
  have HN := Lib.hid hne
  clear hd hx hlt hne
  obtain ⟨pa, hpa⟩ : ∃ pa, pa = prevAt ns := ⟨_, rfl⟩
  have HPA := Lib.hid hpa
  rw [← hpa]
  clear hpa
  obtain ⟨zs, hzs⟩ : ∃ zs, zs = ((ns.take s).map Prod.snd).reverse := ⟨_, rfl⟩
  rw [← hzs]
  have HZS := Lib.hid hzs
  clear hzs
  go_enter Try.func102, Try.ntmps102
  go_wp2_with fail
  go_loopg [4] s (fun kq v wr => kq ≤ ns.length ∧ v = .pointer (pa kq) ∧ Hid ((∃ ks, OutX wr base xb ks ∧ ks.length + kq ≤ ns.length ∧ ks ++ ((ns.take kq).map Prod.snd).reverse = zs) ∧ FrB base [xb] w wr))
  case atStart =>
    exact ⟨hs, rfl, ⟨⟨[], HX.out, by simpa using hs, by rw [HZS.out]; rfl⟩, FrB.refl _ _ _⟩⟩
  case round =>
    obtain ⟨hkk, rfl, HK⟩ := hrel
    rcases gk with _ | k
    · rw [show pa 0 = none by rw [HPA.out]; rfl]
      go_wp2_with fail
      go_end0
      obtain ⟨⟨ks, h1, _, h2⟩, h3⟩ := HK.out
      rw [List.take_zero, List.map_nil, List.reverse_nil, List.append_nil] at h2
      exact ⟨rfl, h2 ▸ h1, h3⟩
    · have hl : k < ns.length := by omega
      obtain ⟨⟨z, y⟩, hzy⟩ : ∃ p, ns[k]? = some p := ⟨_, List.getElem?_eq_getElem hl⟩
      have hm : z ∈ idsOf ns := List.mem_map_of_mem (f := Prod.fst) (List.mem_of_getElem? hzy)
      have hz := (HD.out.nodes _ _ hzy).frB HK.out.2 (HL.out z hm) (HN.out z hm)
      rw [show pa (k + 1) = some ⟨z, 0, none⟩ by rw [HPA.out]; exact idAt_some hzy]
      have z0 : wr.cell? ⟨z, 0, none⟩ = some (.int .i64 y) := hz.cell 0
      have HZ := Lib.hid (And.intro hz (And.intro hzy hm))
      obtain ⟨⟨ks, hx0, hl0, he⟩, hf0⟩ := HK.out
      obtain ⟨ka, kc, hT⟩ := hx0
      have HC := Lib.hid (each1_calls base xb _ ka kc y wr hT (by omega))
      have HE0 := Lib.hid he
      clear hz hzy hm hT he
      go_wp2_with fail
      refine HC.out.mono ?_
      rintro e w1 ⟨rfl, hx1, hf1⟩
      obtain ⟨hz, hzy, hm⟩ := HZ.out
      have hz1 := hz.frB hf1 (HL.out z hm) (HN.out z hm)
      have z1 : w1.cell? ⟨z, 1, none⟩ = some (.pointer (pa k)) := by rw [HPA.out]; exact hz1.cell 1
      have HE := Lib.hid (show (∃ ks, OutX w1 base xb ks ∧ ks.length + k ≤ ns.length ∧ ks ++ ((ns.take k).map Prod.snd).reverse = zs) ∧ FrB base [xb] w w1 by
        refine ⟨⟨ks ++ [y], hx1, by rw [List.length_append, List.length_singleton]; omega, ?_⟩, hf0.trans hf1⟩
        rw [← HE0.out, List.take_add_one, hzy, Option.toList_some, List.map_append, List.reverse_append, List.append_assoc]; rfl)
      clear hx1 hf1 hz hzy hm hz1 z0 hf0
      go_wp2_with fail
      go_roundg k
      case measure => omega
      case rel => exact ⟨by omega, rfl, HE.out⟩
/-- what impl.each gives. -/
def EachP (w : World) (ks : List Int) (e : Ending) (w' : World) : Prop := ∃ v, e = .returned v ∧ w'.ownsRow w.heap.size 3 1 v ks.length (ks.map i64v) ∧ Below w.heap.size w w'
theorem OutX.start (w : World) : OutX (w.alloc (.cells #[.slice none 0 0] 22)) (w.heap.size + 1) w.heap.size [] := ⟨none, 0, Blk.new _ _ _, World.ownsRow_nil _ _ _ _, Nat.lt_succ_self _, by simp⟩
theorem own_le {w : World} {B B' : Nat} {T : TypeId} {s : Nat} {v : Value} {n : Nat} {xs : List Value} (h : w.ownsRow B T s v n xs) (hB : B' ≤ B) : w.ownsRow B' T s v n xs := by
  refine ⟨h.1, h.2.imp id ?_⟩
  rintro ⟨g, cap, cur, e, h1, h2⟩
  exact ⟨g, cap, cur, e, by omega, h2⟩
theorem FrB.below1 {w w' : World} {B : Nat} {S : List Nat} (h : FrB B S w w') {C : Nat} (hC : C ≤ B) (hS : ∀ b ∈ S, C ≤ b) : Below C w w' := ⟨h.os, h.tape, h.output, h.size, fun k hk => h.block k (by omega) (fun e => by have := hS k e; omega)⟩
theorem OutX.done {w w' : World} {ks : List Int} (hx : OutX w' (w.heap.size + 1) w.heap.size ks) (hf : FrB (w.heap.size + 1) [w.heap.size] (w.alloc (.cells #[.slice none 0 0] 22)) w') :
    ∃ v, w'.cell? ⟨w.heap.size, 0, none⟩ = some v ∧ w'.ownsRow w.heap.size 3 1 v ks.length (ks.map i64v) ∧ Below w.heap.size w w' := by
  obtain ⟨ka, kc, h⟩ := hx
  exact ⟨_, h.blk.cell 0, own_le h.keys (by omega), ((Below.refl _ w).alloc (Nat.le_refl _) _).trans (hf.below1 (by omega) (by simp))⟩
set_option maxHeartbeats 1600000 in
theorem eachOn_calls (lb : Nat) (ns : List (Nat × Int)) (s : Nat) (hs : s ≤ ns.length) (w : World) (hd : DL w lb ns) (hk : ns.length ≤ 100000000000) :
    Calls Try.prog 88 #[.pointer (idAt ns s), .bool false] w (EachP w ((ns.drop s).map Prod.snd)) := by
  have hlt := hd.lt
  have HC := Lib.hid (nodeEach2_calls (w.heap.size + 1) w.heap.size lb ns s hs _ (hd.alloc _) (OutX.start w) (fun a ha => by have := hlt a ha; omega) hk)
  clear hd
  generalize idAt ns s = pp at HC ⊢
  generalize (ns.drop s).map Prod.snd = ks at HC ⊢
  go_enter Try.func88, Try.ntmps88
  go_wp2_with fail
  refine HC.out.mono ?_
  rintro e w1 ⟨rfl, hx1, hf1⟩
  obtain ⟨v, c0, o1, b1⟩ := hx1.done hf1
  obtain ⟨A1, c1, rfl⟩ := own_form o1
  clear hf1 hx1
  go_wp2
  go_ret
  exact ⟨.slice A1 _ c1, rfl, o1, b1⟩
set_option maxHeartbeats 1600000 in
theorem eachBack_calls (lb : Nat) (ns : List (Nat × Int)) (s : Nat) (hs : s ≤ ns.length) (w : World) (hd : DL w lb ns) (hk : ns.length ≤ 100000000000) :
    Calls Try.prog 88 #[.pointer (prevAt ns s), .bool true] w (EachP w (((ns.take s).map Prod.snd).reverse)) := by
  have hlt := hd.lt
  have HC := Lib.hid (nodeBack_calls (w.heap.size + 1) w.heap.size lb ns s hs _ (hd.alloc _) (OutX.start w) (fun a ha => by have := hlt a ha; omega) hk)
  clear hd
  generalize prevAt ns s = pp at HC ⊢
  generalize ((ns.take s).map Prod.snd).reverse = ks at HC ⊢
  go_enter Try.func88, Try.ntmps88
  go_wp2_with fail
  refine HC.out.mono ?_
  rintro e w1 ⟨rfl, hx1, hf1⟩
  obtain ⟨v, c0, o1, b1⟩ := hx1.done hf1
  obtain ⟨A1, c1, rfl⟩ := own_form o1
  clear hf1 hx1
  go_wp2
  go_ret
  exact ⟨.slice A1 _ c1, rfl, o1, b1⟩
end Go.Proofs.Ytinajjceojfflaa
