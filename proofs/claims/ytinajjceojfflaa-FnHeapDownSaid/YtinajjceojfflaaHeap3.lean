/- heap.New, FromSlice, From, impl.copied. -/
import Derived.Test.YtinajjceojfflaaHeap2
import Derived.Test.YtinajjceojfflaaIntRow
import Derived.OwnWalk
namespace Go.Proofs.Ytinajjceojfflaa
open Go.RowKit HeapP
attribute [local go_sem ↓] Go.wp_at_zero Go.wp_at_succ

/-- wpList_append_C, and that what was a row is none the less one. -/
theorem wpList_append_some {α : Type} {s : Nat} {cells : α → List Value} (hs : ∀ a, (cells a).length = s) {P : Program} (w : World) {ops : Array Oper} {rest : List Oper} {o : Oper} {a : Act} {Q : Exit → Act → World → Prop} (hgd : o.guard = none) (sl x : Operand) (t : TypeId)
    (ho : o.op = .call { callee := .builtin .append, args := #[sl, x], argTypes := #[t, t] })
    (base : Nat) (e : TypeId) (i : TypeInfo) (z : Value) (bytes : Nat) (ht : P.underlying t = some (.slice e)) (hi : P.info? e = some i) (hz : i.zero = some z)
    (hsize : i.size = s) (hby : i.bytes = bytes) (hzs : z.cells.size = s) (hsz : 0 < s)
    (g0 c0 n : Nat) (xs : List Value) (hsv : a.eval sl = .slice (some ⟨g0, 0, none⟩) n c0) (hown : w.ownsRow base e s (.slice (some ⟨g0, 0, none⟩) n c0) n xs)
    (ar : Value) (l : List α) {B : Nat} (hx : a.eval x = ar) (har : SlC s cells w B ar l) (hnone : ∀ m c, ar = .slice none m c → m = 0 ∧ c = 0) (h1 : ∀ a, ∀ u ∈ cells a, u.oneCell' = true)
    (h63 : n + l.length ≤ maxLen) (hbytes : (n + l.length) * bytes ≤ 140737488355328) (hbase : base ≤ w.heap.size)
    (h : ∀ g c w', w'.ownsRow base e s (.slice (some ⟨g, 0, none⟩) (n + l.length) c) (n + l.length) (xs ++ l.flatMap cells) → w.grownBy w' (some g0) → wpList P ops Q rest (a.put o.dst (.slice (some ⟨g, 0, none⟩) (n + l.length) c)) w') : wpList P ops Q (o :: rest) a w := by
  obtain ⟨A, c, rfl⟩ := har.form
  cases A with
  | none =>
    obtain ⟨hl, rfl⟩ := hnone _ _ rfl
    have hl := List.length_eq_zero_iff.1 hl
    subst hl
    exact wpList_append_own_none hgd sl x t ho base e i s ht hi _ n xs hsv hown hx (h g0 c0 w (by simpa using hown) (grown_refl w _))
  | some ad =>
    refine wpList_append_own w hgd sl x t ho base e i z s bytes ht hi hz hsize hby hzs hsz _ n xs hsv hown ad l.length c _ hx (flat_len hs l) (har.news hs hsz)
      (fun u hu => by obtain ⟨a, _, hu⟩ := List.mem_flatMap.1 hu; exact h1 a u hu) h63 hbytes hbase (fun v' w' h2 h3 h4 => ?_)
    rcases h2.2 with ⟨e1, e2⟩ | ⟨g, cap, cur, e1, _⟩
    · have := (h4.1 e1).1
      cases this
    · subst e1
      exact h g cap w' h2 h3
theorem own_empty (w : World) (T : TypeId) (s : Nat) : (w.alloc (.cells #[] T)).ownsRow w.heap.size T s (.slice (some ⟨w.heap.size, 0, none⟩) 0 0) 0 [] :=
  ⟨by simp, .inr ⟨w.heap.size, 0, #[], rfl, Nat.le_refl _, Blk.new w #[] T, Nat.le_refl _, by unfold maxLen; omega, by simp, by simp⟩⟩
set_option maxHeartbeats 800000 in
theorem copied_calls (xs : List Int) (av : Value) (w : World) (ha : SlI w w.heap.size av xs) (hnone : ∀ m c, av = .slice none m c → m = 0 ∧ c = 0) (hn : xs.length ≤ 1000000000000) :
    Calls Try.prog 32 #[av] w fun e w' => ∃ g cap, e = .returned (.slice (some ⟨g, 0, none⟩) xs.length cap) ∧ OwnI w' w.heap.size g cap xs ∧ Below w.heap.size w w' := by
  obtain ⟨i0, hi0, hz0, hz1, hz2⟩ := info_parts Try.infoInt
  have HA := Lib.hid ha
  have HN := Lib.hid hnone
  obtain ⟨A, c, rfl⟩ := ha.form
  clear ha hnone
  go_enter Try.func32, Try.ntmps32
  go_wp2_with (at_builtin; refine wpList_append_some int1_len _ rfl (.tmp 3) (.tmp 4) 22 rfl w.heap.size 3 i0 _ 8 Try.underlying22 hi0 hz0 hz1 hz2 rfl (by omega) _ _ 0 [] rfl (own_empty w _ 1) _ xs rfl (HA.out.below ((Below.refl _ w).alloc (Nat.le_refl _) _)) HN.out (by intro a; simp [int1, Value.oneCell']) (by unfold maxLen; omega) (by omega) (by simp) ?_; intro g1 cap1 w1 hown1 hgrow1)
  go_ret
  have e1 : 0 + xs.length = xs.length := by omega
  have e2 : ([] : List Value) ++ xs.flatMap int1 = xs.map i64v := by rw [int1_flat]; rfl
  rw [e1, e2] at hown1
  exact ⟨g1, cap1, by rw [← e1]; rfl, hown1, ((Below.refl _ w).alloc (Nat.le_refl _) _).grown hgrow1 (by simp) (fun g hg => (own_empty w 3 1).lt g hg |>.1)⟩
set_option maxHeartbeats 800000 in
theorem heapNew_calls {ts : List Int} {f : Value} {B : Nat} (w : World) (hf : LessOk w B f ts) (hB : B ≤ w.heap.size) :
    Calls Try.prog 68 #[f] w fun e w' => ∃ hb, e = .returned (.pointer (some ⟨hb, 0, none⟩)) ∧ HeapI ts f B hb w' [] ∧ Below w.heap.size w w' := by
  obtain ⟨i0, hi0, hz0, hz1, hz2⟩ := info_parts Try.infoInt
  obtain ⟨fn, fi, ca, rfl⟩ := hf.fun_
  have HF := Lib.hid hf
  clear hf
  go_enter Try.func68, Try.ntmps68
  go_wp2_with (refine wpList_make_own _ rfl (.const (.int .i64 0)) (.const (.int .i64 0)) 22 rfl w.heap.size 3 i0 _ 1 Try.underlying22 hi0 hz0 hz1 .i64 .i64 _ 0 rfl rfl rfl (by omega) (by unfold maxLen; omega) (Nat.le_refl _) ?_; intro w1 hown1 hgrow1)
  go_ret
  have b1 : Below w.heap.size w w1 := (Below.refl _ w).grown hgrow1 (Nat.le_refl _) (by simp)
  have b2 := b1.alloc b1.size (Obj.cells #[.slice (some ⟨w.heap.size, 0, none⟩) 0 0, .func fn fi ca] 101)
  have o1 : OwnI w1 w.heap.size w.heap.size 0 [] := hown1
  have o2 := o1.fr (Fr.alloc [] w1 (Obj.cells #[.slice (some ⟨w.heap.size, 0, none⟩) 0 0, .func fn fi ca] 101)) (by simp)
  have o3 : OwnI (w1.alloc (Obj.cells #[.slice (some ⟨w.heap.size, 0, none⟩) 0 0, .func fn fi ca] 101)) B w.heap.size 0 [] := by
    obtain ⟨cur, h2, h1, h3, h4, h5, h6⟩ := o2.blk
    exact OwnI.mk h2 hB h3 h4 h5 h6
  exact ⟨w1.heap.size, rfl, ⟨w.heap.size, 0, Blk.new _ _ _, o3, HF.out.below (b2.mono hB), Nat.le_trans hB b1.size⟩, b2⟩
/-- what FromSlice makes of a row: so many places are still to go down. -/
def fromP (r : Int → Int) : Nat → List Int → List Int
  | 0, xs => xs
  | m + 1, xs => fromP r m (downP r xs.length xs m)
theorem fromP_len (r : Int → Int) : ∀ (m : Nat) (xs : List Int), (fromP r m xs).length = xs.length
  | 0, _ => rfl
  | m + 1, xs => by rw [fromP, fromP_len r m, downP_len]
set_option maxRecDepth 100000 in
set_option maxHeartbeats 1600000 in
theorem fromSlice_calls {ts : List Int} {f : Value} {B g cap : Nat} {xs : List Int} (w : World) (hf : LessOk w B f ts) (hB : B ≤ w.heap.size) (hO : OwnI w B g cap xs) (hn : xs.length ≤ 100000000000) :
    Calls Try.prog 71 #[f, .slice (some ⟨g, 0, none⟩) xs.length cap] w fun e w' => ∃ hb, e = .returned (.pointer (some ⟨hb, 0, none⟩)) ∧ HeapI ts f B hb w' (fromP (rankOf ts) (xs.length / 2) xs) ∧ Below B w w' := by
  obtain ⟨fn, fi, ca, rfl⟩ := hf.fun_
  have HF := Lib.hid hf
  have HO := Lib.hid hO
  have hge : B ≤ g := by obtain ⟨_, _, h1, _⟩ := hO.blk; exact h1
  clear hf hO
  obtain ⟨h2, hh⟩ : ∃ h2, xs.length / 2 = h2 := ⟨_, rfl⟩
  rw [hh]
  have hh2 : h2 * 2 ≤ xs.length := by omega
  have e1 : (xs.length : Int) / 2 = (h2 : Int) := by omega
  clear hh
  go_enter Try.func71, Try.ntmps71
  go_wp2_with fail
  go_loopw [6] (fun i wr => ∃ (m : Nat) (cur : List Int), m ≤ h2 ∧ i = .int .i64 ((m : Int) - 1) ∧ cur.length = xs.length ∧ Hid (fromP (rankOf ts) m cur = fromP (rankOf ts) h2 xs ∧ OwnI wr B g cap cur ∧ Fr [g] w wr)) (fun i _ => (intOf i + 1).toNat)
  case atStart => exact ⟨h2, xs, Nat.le_refl _, by go_num, rfl, ⟨rfl, HO.out, Fr.refl _ _⟩⟩
  case round =>
    obtain ⟨m, cur, hm, rfl, hl, HK⟩ := hrel
    have hfb : Below B w wr := HK.out.2.2.below (by simpa using hge) hB
    cases m with
    | zero =>
      have e0 : (((0 : Nat) : Int) - 1) = -1 := by omega
      go_wp2_with fail
      go_ret
      have h := HK.out
      have o2 := h.2.1.fr (Fr.alloc [] wr (Obj.cells #[.slice (some ⟨g, 0, none⟩) xs.length cap, .func fn fi ca] 101)) (by simp)
      have b2 : Below B w (wr.alloc (Obj.cells #[.slice (some ⟨g, 0, none⟩) xs.length cap, .func fn fi ca] 101)) := hfb.alloc (Nat.le_trans hB hfb.size) _
      have hc : cur = fromP (rankOf ts) h2 xs := h.1
      rw [hc] at o2 hl
      exact ⟨wr.heap.size, rfl, ⟨g, cap, by rw [hl]; exact Blk.new _ _ _, o2, HF.out.below b2, Nat.le_trans hB hfb.size⟩, b2⟩
    | succ m =>
      have e0 : (((m + 1 : Nat) : Int) - 1) = (m : Int) := by omega
      have HL := Lib.hid hl
      have HD := Lib.hid (down_calls ts (.func fn fi ca) B B g cap cur m wr (HF.out.below hfb) hge HK.out.2.1 (by omega) (by omega))
      rw [hl] at HD
      clear hl hfb
      go_wp2_with fail
      refine HD.out.mono ?_
      rintro e w1 ⟨rfl, o1, f1⟩
      go_wp2_with fail
      refine ⟨⟨m, _, by omega, by go_num, ?_, ⟨?_, o1, HK.out.2.2.comp f1⟩⟩, by simp [intOf]⟩
      · rw [downP_len]; exact HL.out
      · have := HK.out.1
        rw [fromP, HL.out] at this
        exact this
theorem from_calls {ts : List Int} {f : Value} {B g cap : Nat} {xs : List Int} (w : World) (hf : LessOk w B f ts) (hB : B ≤ w.heap.size) (hO : OwnI w B g cap xs) (hn : xs.length ≤ 100000000000) :
    Calls Try.prog 70 #[f, .slice (some ⟨g, 0, none⟩) xs.length cap] w fun e w' => ∃ hb, e = .returned (.pointer (some ⟨hb, 0, none⟩)) ∧ HeapI ts f B hb w' (fromP (rankOf ts) (xs.length / 2) xs) ∧ Below B w w' := by
  have H := Lib.hid (fromSlice_calls w hf hB hO hn)
  obtain ⟨fn, fi, ca, rfl⟩ := hf.fun_
  clear hf hO
  go_enter Try.func70, Try.ntmps70
  go_wp2_with fail
  refine H.out.mono ?_
  rintro e w1 ⟨hb, rfl, h1, h2⟩
  go_wp2
  go_ret
  exact ⟨hb, rfl, h1, h2⟩
/-- the heap that heapOf makes. -/
def heapOfP (ts : List Int) (how : Int) (first : List Int) : List Int := if how = 0 then first.foldl (pushP ts) [] else fromP (rankOf ts) (first.length / 2) first
theorem pushP_len (ts xs : List Int) (x : Int) : (pushP ts xs x).length = xs.length + 1 := by unfold pushP; rw [upP_len]; simp
theorem foldl_push_len (ts : List Int) : ∀ (l xs : List Int), (l.foldl (pushP ts) xs).length = xs.length + l.length
  | [], _ => rfl
  | x :: l, xs => by rw [List.foldl_cons, foldl_push_len ts l, pushP_len, List.length_cons]; omega
theorem OwnI.weaken {w : World} {B B' g cap : Nat} {xs : List Int} (h : OwnI w B g cap xs) (hB : B' ≤ B) : OwnI w B' g cap xs := by
  obtain ⟨cur, h2, h1, h3, h4, h5, h6⟩ := h.blk
  exact OwnI.mk h2 (Nat.le_trans hB h1) h3 h4 h5 h6
set_option maxRecDepth 100000 in
set_option maxHeartbeats 3200000 in
theorem heapOf_calls (ts : List Int) (tv fv : Value) (how : Int) (first : List Int) (w : World) (ht : SlR w w.heap.size tv (ts.map i64v)) (hfi : SlI w w.heap.size fv first) (hnone : ∀ m c, fv = .slice none m c → m = 0 ∧ c = 0) (hn : first.length ≤ 10000000000) :
    Calls Try.prog 29 #[tv, .int .i64 how, fv] w fun e w' => ∃ hb f B, e = .returned (.pointer (some ⟨hb, 0, none⟩)) ∧ HeapI ts f B hb w' (heapOfP ts how first) ∧ w.heap.size ≤ B ∧ B ≤ w'.heap.size ∧ Below w.heap.size w w' := by
  obtain ⟨A, c, rfl⟩ := ht.form
  obtain ⟨A2, c2, rfl⟩ := hfi.form
  rw [List.length_map] at *
  have HT := Lib.hid ht
  have HF := Lib.hid hfi
  have HN := Lib.hid hnone
  clear ht hfi hnone
  have hh : how = 0 ∨ how = 1 ∨ ((how == 0) = false ∧ (how == 1) = false) := by simp only [beq_eq_false_iff_ne]; omega
  rcases hh with rfl | rfl | ⟨e0, e1⟩
  · go_enter Try.func29, Try.ntmps29
    go_wp2_with fail
    refine (lessMake_calls ts _ w HT.out).mono ?_
    rintro e w1 ⟨f, rfl, hf, hb1⟩
    obtain ⟨fn, fi, ca, rfl⟩ := hf.fun_
    have HL := Lib.hid hf
    clear hf
    go_wp2_with fail
    refine (heapNew_calls w1 HL.out (Nat.le_refl _)).mono ?_
    rintro e w2 ⟨hb, rfl, h2, hb2⟩
    have HI := Lib.hid h2
    clear h2
    go_wp2_with fail
    go_loopw [18] (fun i wr => ∃ k : Nat, k ≤ first.length ∧ i = .int .i64 k ∧ Hid (HeapI ts (.func fn fi ca) w1.heap.size hb wr ((first.take k).foldl (pushP ts) []) ∧ Below w1.heap.size w2 wr)) (fun i _ => first.length - (intOf i).toNat)
    case atStart => exact ⟨0, Nat.zero_le _, rfl, ⟨HI.out, Below.refl _ _⟩⟩
    case round =>
      obtain ⟨k, hk, rfl, HK⟩ := hrel
      by_cases hlt : k < first.length
      · obtain ⟨b, off, rfl, g1, g2, q0⟩ := SlI.at_ HF.out hlt
        have hw : Below w.heap.size w wr := hb1.trans ((hb2.mono hb1.size).trans (HK.out.2.mono hb1.size))
        have q1 := (hw.cell (p := ⟨b, off + k, none⟩) g2).trans q0
        clear q0
        have HX := Lib.hid (show first.take (k + 1) = first.take k ++ [first[k]] from List.take_succ_eq_append_getElem hlt)
        have hle := hw.size
        clear hw
        generalize first[k] = x at *
        obtain ⟨g, cap, hR⟩ := HK.out.1
        have HR := Lib.hid hR
        clear hR
        go_wp2_with fail
        refine (push_calls x wr HR.out (by rw [foldl_push_len, List.length_take]; simp; omega)).mono ?_
        rintro e w3 ⟨rfl, h3, hb3, _⟩
        go_wp2_with fail
        refine ⟨⟨k + 1, by omega, by go_num, ⟨?_, HK.out.2.trans hb3⟩⟩, by simp [intOf]; omega⟩
        rw [HX.out, List.foldl_append]
        exact h3
      · have : k = first.length := by omega
        subst this
        go_wp2_with fail
        go_ret
        have h := HK.out
        rw [List.take_length] at h
        exact ⟨hb, _, w1.heap.size, rfl, h.1, hb1.size, Nat.le_trans hb2.size h.2.size, hb1.trans ((hb2.mono hb1.size).trans (h.2.mono hb1.size))⟩
  · go_enter Try.func29, Try.ntmps29
    go_wp2_with fail
    refine (lessMake_calls ts _ w HT.out).mono ?_
    rintro e w1 ⟨f, rfl, hf, hb1⟩
    obtain ⟨fn, fi, ca, rfl⟩ := hf.fun_
    have HL := Lib.hid hf
    clear hf
    go_wp2_with fail
    refine (copied_calls first _ w1 ((HF.out.below hb1).mono hb1.size) HN.out (by omega)).mono ?_
    rintro e w2 ⟨g, cap, rfl, o2, hb2⟩
    have HO := Lib.hid o2
    clear o2
    go_wp2_with fail
    refine (from_calls w2 (HL.out.below hb2) hb2.size HO.out (by omega)).mono ?_
    rintro e w3 ⟨hb, rfl, h3, hb3⟩
    go_wp2_with fail
    go_ret
    exact ⟨hb, _, w1.heap.size, rfl, h3, hb1.size, Nat.le_trans hb2.size hb3.size, hb1.trans ((hb2.mono hb1.size).trans (hb3.mono hb1.size))⟩
  · have E := Lib.hid (show heapOfP ts how first = fromP (rankOf ts) (first.length / 2) first from if_neg (by simpa using e0))
    go_enter Try.func29, Try.ntmps29
    go_wp2_with fail
    refine (lessMake_calls ts _ w HT.out).mono ?_
    rintro e w1 ⟨f, rfl, hf, hb1⟩
    obtain ⟨fn, fi, ca, rfl⟩ := hf.fun_
    have HL := Lib.hid hf
    clear hf
    go_wp2_with fail
    refine (copied_calls first _ w1 ((HF.out.below hb1).mono hb1.size) HN.out (by omega)).mono ?_
    rintro e w2 ⟨g, cap, rfl, o2, hb2⟩
    have HO := Lib.hid o2
    clear o2
    go_wp2_with fail
    refine (fromSlice_calls w2 (HL.out.below hb2) hb2.size HO.out (by omega)).mono ?_
    rintro e w3 ⟨hb, rfl, h3, hb3⟩
    go_wp2_with fail
    go_ret
    exact ⟨hb, _, w1.heap.size, rfl, by rw [E.out]; exact h3, hb1.size, Nat.le_trans hb2.size hb3.size, hb1.trans ((hb2.mono hb1.size).trans (hb3.mono hb1.size))⟩
end Go.Proofs.Ytinajjceojfflaa
