/- spec.Sound: of the nodes of an AVL tree. -/
import Derived.Test.YtpnmgfiifaljjaaSound0
import Derived.Test.YtpnmgfiifaljjaaSpecT3
import Derived.Deep.DeepCutAuto
namespace Go.Proofs.Ytpnmgfiifaljjaa.Kp
open Go.RowKit Om

/-- where the places begin: of no node at all, too. -/
theorem even0 (t : AT) (ok : t.Ok) (hn : t.shape.length ≤ 5000000000) (kv : Value) (B : Nat) (w : World) (hk : KT w B kv (hasB t.shape)) :
    Calls Try.prog 39 #[kv, .int .i64 0] w fun e w' => e = .returned (.bool true) ∧ ∃ n, w' = w.drewN n := by
  rcases t with _ | ⟨b, k, v, h, l, r⟩
  · obtain ⟨A, c, rfl⟩ := hk.form
    clear hk
    show Calls _ _ #[.slice A 0 c, _] _ _
    go_enter Try.func39, Try.ntmps39
    go_wp2
    go_ret
    exact ⟨rfl, 0, rfl⟩
  · have hs : Stands (hasB (AT.node b k v h l r).shape) 0 (AT.node b k v h l r).bt := by rw [bt_flags]; exact Stands.all _
    have := even_calls _ (by rw [hasB_len]; exact hn) kv B (AT.node b k v h l r).bt 0 w hk hs
    rw [bt_even _ ok] at this
    exact this
theorem between0 (t : AT) (hn : t.shape.length ≤ 5000000000) (kv : Value) (w : World) (hk : KT w w.heap.size kv (hasB t.shape)) :
    Calls Try.prog 40 #[kv, .int .i64 0] w fun e w' => ∃ v, e = .returned v ∧ w'.ownsRow w.heap.size 3 1 v (t.bt.betw 0).length ((t.bt.betw 0).map i64v) ∧ Below w.heap.size w w' := by
  rcases t with _ | ⟨b, k, v, h, l, r⟩
  · obtain ⟨A, c, rfl⟩ := hk.form
    clear hk
    show Calls _ _ #[.slice A 0 c, _] _ _
    go_enter Try.func40, Try.ntmps40
    go_wp2
    go_ret
    exact ⟨_, rfl, World.ownsRow_nil _ _ _ _, Below.refl _ _⟩
  · have hs : Stands (hasB (AT.node b k v h l r).shape) 0 (AT.node b k v h l r).bt := by rw [bt_flags]; exact Stands.all _
    exact between_calls _ (by rw [hasB_len]; exact hn) kv (AT.node b k v h l r).bt 0 w hk hs
/-- at a round's head: the first k entries are in the map. -/
structure DInv (wB : World) (t8 k : Nat) (m : R) (wr : World) : Prop where
  is : ∃ kv vv, Blk wr t8 #[kv, vv] 39 ∧ wr.ownsRow wB.heap.size 3 1 kv k (((m.take k).map Prod.fst).map i64v) ∧ wr.ownsRow wB.heap.size 3 1 vv k (((m.take k).map Prod.snd).map i64v) ∧ (kv.ownBlock = none ∨ kv.ownBlock ≠ vv.ownBlock)
  fr : FrB wB.heap.size [t8] wB wr
theorem bnS (W : World) {n : Nat} (hn : W.heap.size = n) (cs : Array Value) (T : TypeId) : Blk (W.alloc (.cells cs T)) n cs T := by subst hn; exact Blk.new _ _ _
theorem set_size (W : World) (a : Addr) (v : Value) : (W.setCell a v).heap.size = W.heap.size := by simp [World.setCell]
theorem apart_symm {a b : Option Nat} (h : a = none ∨ a ≠ b) : b = none ∨ b ≠ a := by
  rcases h with h | h
  · rw [h]; cases b <;> simp
  · exact .inr (Ne.symm h)
theorem take_snocR {m : R} {k : Nat} {x : Int × Int} (h : m[k]? = some x) : m.take (k + 1) = m.take k ++ [x] := by
  obtain ⟨hlt, e⟩ := List.getElem?_eq_some_iff.1 h
  rw [List.take_succ_eq_append_getElem hlt, e]
theorem rise_at {r : Int → Int} {m : R} (hr : Rises r m) {i j : Nat} {x y : Int × Int} (hij : i < j) (hi : m[i]? = some x) (hj : m[j]? = some y) : r x.1 < r y.1 := by
  obtain ⟨h1, rfl⟩ := List.getElem?_eq_some_iff.1 hi
  obtain ⟨h2, rfl⟩ := List.getElem?_eq_some_iff.1 hj
  unfold Rises at hr
  exact (List.pairwise_iff_getElem.1 hr) i j h1 h2 hij
set_option maxRecDepth 100000 in
set_option maxHeartbeats 6400000 in
theorem sound_calls (xs : List Int) (tv lv : Value) (t : AT) (w : World) (ok : t.Ok) (hr : Rises (rankOf xs) t.prs) (hn : t.shape.length ≤ 5000000000) (ht : SlR w w.heap.size tv (xs.map i64v)) (hl : SlC 5 brCells w w.heap.size lv t.shape) :
    Calls Try.prog 14 #[tv, lv] w fun e w' => ∃ kv vv, e = .returned (.tuple #[.agg #[kv, vv], .bool true]) ∧ TT w' kv vv t.prs ∧ Below w.heap.size w w' := by
  obtain ⟨At, ct, rfl⟩ := ht.form
  rw [List.length_map] at *
  obtain ⟨Al, cl, rfl⟩ := hl.form
  obtain ⟨i0, hi0, hz0, hz1, hz2⟩ := info_parts Try.infoInt
  have b0 : Below w.heap.size w (w.alloc (.cells #[.slice none 0 0, .slice none 0 0] 39)) := (Below.refl _ w).alloc (Nat.le_refl _) _
  have R0 := Blk.new w #[.slice none 0 0, .slice none 0 0] 39
  have HB := Lib.hid (branches2_calls t.shape hn (.slice Al t.shape.length cl) (w.alloc (.cells #[.slice none 0 0, .slice none 0 0] 39)) ((hl.below b0).mono b0.size))
  have HT := Lib.hid ht
  have HL := Lib.hid hl
  have HR0 := Lib.hid (And.intro R0 b0)
  have hko : KidsOk (hasB t.shape) = true := by
    unfold KidsOk
    refine decide_eq_true ?_
    rcases t with _ | ⟨b, k, v, h, l, r⟩
    · exact .inl rfl
    · right
      have hs : Stands (hasB (AT.node b k v h l r).shape) 0 (AT.node b k v h l r).bt := by rw [bt_flags]; exact Stands.all _
      rw [hs.ends rfl, hasB_len, AT.shape_len, bt_size, Nat.zero_add]
  have HKO := Lib.hid hko
  have HTD := Lib.hid (fun kv (w' : World) hk (hb : Below w.heap.size w w') => told_calls t.shape hn t.bt (bt_flags t) (.slice Al t.shape.length cl) kv w'.heap.size w' (((HL.out.below hb).mono hb.size)) hk)
  rw [bt_talls t ok, show decide (t.bt.talls = t.bt.talls) = true by simp] at HTD
  have HEV := Lib.hid (fun kv (w' : World) hk => even0 t ok hn kv w'.heap.size w' hk)
  have HBT := Lib.hid (fun kv (w' : World) hk => between0 t hn kv w' hk)
  have HBW := Lib.hid (bt_betw t t.shape 0 ⟨[], [], by simp, rfl⟩)
  have hbl : (t.bt.betw 0).length = t.prs.length := by rw [BT.betw_len, bt_size, ← AT.keys_len, AT.keys_prs, List.length_map]
  have hbl2 : t.prs.length = t.shape.length := by rw [AT.shape_len, ← AT.keys_len, AT.keys_prs, List.length_map]
  have HRI := Lib.hid hr
  have HLN := Lib.hid (And.intro hbl hbl2)
  have hpn : t.prs.length ≤ 5000000000 := by omega
  clear ht hl b0 R0 hko hr hbl hbl2
  generalize t.bt.betw 0 = bw at *
  generalize t.prs = m at *
  go_enter Try.func14, Try.ntmps14
  go_wp2_with fail
  generalize w.alloc (.cells #[.slice none 0 0, .slice none 0 0] 39) = W0 at *
  refine HB.out.mono ?_
  rintro e w1 ⟨b1, v1, rfl, A1, c1, rfl, h1⟩
  rw [HKO.out]
  have H1 := Lib.hid (show KT w1 w1.heap.size (.slice A1 (hasB t.shape).length c1) (hasB t.shape) from h1 HKO.out)
  rw [hasB_len] at H1 ⊢
  have B1 := HR0.out.2.trans (b1.mono HR0.out.2.size)
  have R1 := HR0.out.1.below b1 HR0.out.1.lt
  have b2 : Below w1.heap.size w1 (w1.alloc (.cells #[.slice none 0 0, .slice none 0 0] 39)) := (Below.refl _ w1).alloc (Nat.le_refl _) _
  have HK := Lib.hid (KT.below H1.out b2)
  have B2 := B1.trans (b2.mono B1.size)
  have HX := Lib.hid (And.intro (R1.below b2 R1.lt) (And.intro (Blk.new w1 #[.slice none 0 0, .slice none 0 0] 39) B2))
  have hlt1 : w.heap.size < w1.heap.size := R1.lt
  have HZ := Lib.hid b2.size
  clear h1 H1 b1 R1 b2 B1 HB HR0 B2
  go_upto_region 3 with (fail)
  generalize w1.alloc (.cells #[.slice none 0 0, .slice none 0 0] 39) = w2 at *
  generalize w1.heap.size = t8 at *
  have HK2 := Lib.hid (show KT w2 w2.heap.size (.slice A1 t.shape.length c1) (hasB t.shape) from SS.mono HK.out HZ.out)
  have HC1 := Lib.hid (HTD.out _ w2 HK2.out HX.out.2.2)
  go_wp2_with fail
  refine HC1.out.mono ?_
  rintro e w3 ⟨rfl, n3, rfl⟩
  have HC2 := Lib.hid (HEV.out _ (w2.drewN n3) (HK2.out.drewN n3))
  go_wp2_with fail
  refine HC2.out.mono ?_
  rintro e w4 ⟨rfl, n4, rfl⟩
  go_wp2_with fail
  have HC3 := Lib.hid (HBT.out _ (w2.drewN (n3 + n4)) (HK2.out.drewN _))
  refine HC3.out.mono ?_
  rintro e w5 ⟨v5, rfl, o5, b5⟩
  have X5 := And.intro (Blk.below (HX.out.1.drewN (n3 + n4)) b5 HX.out.1.lt) (And.intro (Blk.below (HX.out.2.1.drewN (n3 + n4)) b5 HX.out.2.1.lt) (HX.out.2.2.trans ((Below.drewN w2 (n3 + n4)).trans (b5.mono HX.out.2.2.size))))
  have HX5 := Lib.hid X5
  have HO5 := Lib.hid o5
  obtain ⟨A5, c5, rfl⟩ := kd_form o5
  rw [HLN.out.1] at HO5 ⊢
  clear X5 o5 b5 HX HC1 HC2 HC3 HK HK2 HZ HTD HEV HBT HKO
  go_wp2_with fail
  go_loopw [10] (fun i wr => ∃ k : Nat, k ≤ m.length ∧ i = .int .i64 (k : Nat) ∧ Hid (DInv w5 t8 k m wr)) (fun i _ => m.length - (intOf i).toNat)
  case atStart => exact ⟨0, Nat.zero_le _, rfl, Lib.hid ⟨⟨_, _, HX5.out.2.1, World.ownsRow_nil _ _ _ _, World.ownsRow_nil _ _ _ _, .inl rfl⟩, FrB.refl _ _ _⟩⟩
  case round =>
    obtain ⟨k, hk, rfl, HD⟩ := hrel
    obtain ⟨kv, vv, hbx, ok1, ov1, hap⟩ := HD.out.is
    obtain ⟨Ak, ck, rfl⟩ := kd_form ok1
    obtain ⟨Av, cv, rfl⟩ := kd_form ov1
    have hfr := HD.out.fr
    have hsz := hfr.size
    have hbel : Below w.heap.size w wr := HX5.out.2.2.trans ⟨hfr.os, hfr.tape, hfr.output, hfr.size, fun j hj => hfr.block j (by have := HX5.out.2.2.size; omega) (by simp; omega)⟩
    by_cases hlt : k < m.length
    · have hbw := kd_frB HO5.out hfr (fun b hb => by rw [List.mem_singleton] at hb; subst hb; exact ⟨_, _, HX5.out.2.1, by decide⟩) (Nat.le_refl _)
      have hbwl : bw.length = m.length := HLN.out.1
      obtain ⟨q, hq⟩ : ∃ q, bw[k]? = some q := ⟨_, List.getElem?_eq_getElem (by omega)⟩
      obtain ⟨i, x, rfl, hi, hm⟩ := HBW.out k q hq
      have hil : i < t.shape.length := (List.getElem?_eq_some_iff.1 hi).1
      obtain ⟨bA, oA, rfl, a1, a2, a3, a4⟩ := (own_NS (xs := bw) hbwl hbw).at_ (i := k) (by omega)
      have eq : bw.getD k 0 = (i : Int) := by rw [List.getD_eq_getElem?_getD, hq]; rfl
      rw [eq] at a4
      obtain ⟨bL, oL, x', rfl, g1, g2, g3, g5, z⟩ := ((HL.out.below hbel) : SlC 5 brCells wr w.heap.size _ t.shape).at_ hil
      rw [hi] at g5
      cases g5
      have q0 := z 0 _ rfl
      have q1 := z 1 _ rfl
      have q2 := z 2 _ rfl
      have q3 := z 3 _ rfl
      have q4 := z 4 _ rfl
      obtain ⟨xk, xv, xh, xl, xr⟩ := x
      simp only [Nat.add_zero] at q0 q1 q2 q3 q4
      have HSN := Lib.hid (And.intro hm (take_snocR hm))
      have c0 := hbx.cell 0
      have hbxl := hbx.lt
      rw [hbwl] at a1
      clear z hi hq eq hbw hm
      have WX : Below wr.heap.size wr (wr.alloc (Obj.cells #[.int .i64 xk, .int .i64 xv, .int .i64 xh, .bool xl, .bool xr] 47)) := (Below.refl _ _).alloc (Nat.le_refl _) _
      have HTX := Lib.hid ((HT.out.below (hbel.trans (WX.mono hbel.size))).mono (hbel.trans (WX.mono hbel.size)).size)
      have HBX := Lib.hid (And.intro (hbx.alloc (Obj.cells #[.int .i64 xk, .int .i64 xv, .int .i64 xh, .bool xl, .bool xr] 47)) (And.intro (ok1.alloc (Obj.cells #[.int .i64 xk, .int .i64 xv, .int .i64 xh, .bool xl, .bool xr] 47)) (And.intro (ov1.alloc (Obj.cells #[.int .i64 xk, .int .i64 xv, .int .i64 xh, .bool xl, .bool xr] 47)) (And.intro (Blk.new wr #[.int .i64 xk, .int .i64 xv, .int .i64 xh, .bool xl, .bool xr] 47) (hfr.alloc hsz (Obj.cells #[.int .i64 xk, .int .i64 xv, .int .i64 xh, .bool xl, .bool xr] 47))))))
      have hz1 : (wr.alloc (Obj.cells #[.int .i64 xk, .int .i64 xv, .int .i64 xh, .bool xl, .bool xr] 47)).heap.size = wr.heap.size + 1 := by simp
      have HZ1 := Lib.hid hz1
      have HAP := Lib.hid hap
      clear WX hz1 hap ok1 ov1 hbx
      go_upto_region 10 with (fail)
      generalize wr.alloc (Obj.cells #[.int .i64 xk, .int .i64 xv, .int .i64 xh, .bool xl, .bool xr] 47) = W4 at *
      have HRK := Lib.hid (fun a n => (specRank_calls xs _ _ a (W4.drewN n) (HTX.out.drewN n)).mono (fun _ _ h => (⟨h.1, n, h.2.symm⟩ : _ ∧ ∃ j, _ = W4.drewN j)))
      go_cut [62] (fun s wx => s = .bool false ∧ Hid (∃ n, wx = W4.drewN n))
      case first =>
        have d0 := HBX.out.1.cell 0
        have y0 := HBX.out.2.2.2.1.cell 0
        by_cases hk0 : k = 0
        · subst hk0
          go_wp2_with fail
          go_quiet (fail)
          go_wp2_with fail
          go_meet
          exact ⟨rfl, _, rfl⟩
        · obtain ⟨x', hx'⟩ : ∃ x', m[k - 1]? = some x' := ⟨_, List.getElem?_eq_getElem (by omega)⟩
          have hlt' := rise_at HRI.out (show k - 1 < k by omega) hx' HSN.out.1
          have hnk : ((m.take k).map Prod.fst).length = k := by rw [List.length_map, List.length_take]; omega
          have hp' := (own_NS hnk HBX.out.2.1)
          obtain ⟨bK, oK, rfl, e1, e2, e3, e4⟩ := hp'.at_ (i := k - 1) (by omega)
          have eg : ((m.take k).map Prod.fst).getD (k - 1) 0 = x'.1 := by
            rw [List.getD_eq_getElem?_getD, List.getElem?_map, List.getElem?_take_of_lt (by omega), hx']; rfl
          rw [eg] at e4
          rw [hnk] at e1
          simp only at hlt'
          have dg : decide (rankOf xs x'.1 ≥ rankOf xs xk) = false := decide_eq_false (by omega)
          have dg2 : decide (rankOf xs xk ≤ rankOf xs x'.1) = false := decide_eq_false (by omega)
          have dk : decide ((k : Int) > 0) = true := decide_eq_true (by omega)
          have dk2 : decide (0 < (k : Int)) = true := decide_eq_true (by omega)
          have dk3 : decide (0 < k) = true := decide_eq_true (by omega)
          have wk : IntKind.i64.wrap ((k : Int) - 1) = (k : Int) - 1 := IntWalk.i64_in _ (by omega)
          have p0 : (0 : Int) ≤ (k : Int) - 1 := by omega
          have p1 : (k : Int) - 1 < (k : Int) := by omega
          have p2 : ((k : Int) - 1).toNat = k - 1 := by omega
          clear hx' hlt' hnk hp' eg
          generalize x'.1 = pk at *
          go_wp2_with fail
          go_quiet ((go_at_call 21; exact HRK.out _ _))
          go_wp2_with fail
          go_meet
          exact ⟨rfl, _, rfl⟩
      case rest =>
      obtain ⟨rfl, HN⟩ := hcut
      obtain ⟨n6, rfl⟩ := HN.out
      have hz6 : (W4.drewN n6).heap.size = wr.heap.size + 1 := HZ1.out
      have HX6 := Lib.hid (And.intro (HBX.out.1.drewN n6) (And.intro (show (W4.drewN n6).ownsRow w5.heap.size 3 1 (.slice Ak k ck) k _ from HBX.out.2.1) (And.intro (show (W4.drewN n6).ownsRow w5.heap.size 3 1 (.slice Av k cv) k _ from HBX.out.2.2.1) (And.intro (HBX.out.2.2.2.1.drewN n6) (HBX.out.2.2.2.2.trans (FrB.of_below (S := [t8]) (Below.drewN (B := w5.heap.size) W4 n6)))))))
      clear HN HBX HTX HRK HZ1
      generalize W4.drewN n6 = wc at *
      have x0 := HX6.out.1.cell 0
      have x1 := HX6.out.1.cell 1
      have xf := HX6.out.1.frozen
      have y0 := HX6.out.2.2.2.1.cell 0
      have y1 := HX6.out.2.2.2.1.cell 1
      have hsz6 := HX6.out.2.2.2.2.size
      have hlt6 := HX6.out.1.lt
      have hlt7 : wr.heap.size < wc.heap.size := by omega
      have n1 : ¬ wr.heap.size = t8 := by omega
      have n2 : ¬ t8 = wr.heap.size := by omega
      clear hz6 c0 q0 q1 q2 q3 q4 a4
      generalize wr.heap.size = t11 at *
      have ha6 : wc.heap.size + 1 = (wc.alloc (Obj.cells #[.int .i64 xk] 3)).heap.size := by simp
      have HA6 := Lib.hid ha6
      clear ha6
      go_wp2_with (at_builtin; first
        | (refine wpList_append_lies _ rfl (.tmp 65) (.tmp 68) 26 rfl w5.heap.size 3 i0 _ 1 8 Try.underlying26 hi0 hz0 hz1 hz2 rfl (by omega) _ k _ rfl (HX6.out.2.1.alloc _) ⟨wc.heap.size, 0, none⟩ 1 1 [.int .i64 xk] rfl rfl (kd_news (Blk.new wc _ _)) (by simp [Value.oneCell']) (by omega) (by unfold maxLen; omega) (by omega) (by simp; omega) (wc.heap.size + 1) (by simp) ?_
           intro gk capk w7 o7 g7 hat7 hl7
           replace hat7 : (Value.slice Ak k ck).ownBlock = some gk ∨ gk = wc.heap.size + 1 := hat7
           have B7 : Blk w7 t8 #[.slice Ak k ck, .slice Av k cv] 39 := kd_grown (HX6.out.1.alloc _) (HX6.out.2.1.alloc _) g7 (by decide)
           have Y7 : Blk w7 t11 #[.int .i64 xk, .int .i64 xv, .int .i64 xh, .bool xl, .bool xr] 47 := kd_grown (HX6.out.2.2.2.1.alloc _) (HX6.out.2.1.alloc _) g7 (by decide)
           have v7 := (HX6.out.2.2.1.alloc (Obj.cells #[.int .i64 xk] 3)).kept g7 (apart_symm HAP.out)
           have F7 := (HX6.out.2.2.2.2.alloc hsz6 (Obj.cells #[.int .i64 xk] 3)).grown g7 (by simp; omega) (fun g hg => (HX6.out.2.1.lt g hg).1)
           have b70 := B7.cell 0
           have b71 := B7.cell 1
           have bf7 := B7.frozen
           have b7l := B7.lt
           have y7 := Y7.cell 1
           have y7l := Y7.lt
           have s7 := F7.size)
        | (refine wpList_append_lies _ rfl (.tmp 72) (.tmp 75) 26 rfl w5.heap.size 3 i0 _ 1 8 Try.underlying26 hi0 hz0 hz1 hz2 rfl (by omega) _ k _ rfl ((kd_set (i := 0) (u := .slice (some ⟨gk, 0, none⟩) (k + 1) capk) B7 v7 (by decide)).alloc _) ⟨w7.heap.size, 0, none⟩ 1 1 [.int .i64 xv] rfl rfl (kd_news (bnS _ (set_size _ _ _) _ _)) (by simp [Value.oneCell']) (by omega) (by unfold maxLen; omega) (by omega) (by simp [World.setCell]; omega) (w7.heap.size + 1) (by simp [World.setCell]) ?_
           intro gv capv w9 o9 g9 hat9 hl9
           replace hat9 : (Value.slice Av k cv).ownBlock = some gv ∨ gv = w7.heap.size + 1 := hat9
           have B8 : Blk (w7.setCell ⟨t8, 0, none⟩ (.slice (some ⟨gk, 0, none⟩) (k + 1) capk)) t8 #[.slice (some ⟨gk, 0, none⟩) (k + 1) capk, .slice Av k cv] 39 := B7.set 0 _
           have v8 := kd_set (i := 0) (u := .slice (some ⟨gk, 0, none⟩) (k + 1) capk) B7 v7 (by decide)
           have k8 := kd_set (i := 0) (u := .slice (some ⟨gk, 0, none⟩) (k + 1) capk) B7 o7 (by decide)
           have B9 : Blk w9 t8 #[.slice (some ⟨gk, 0, none⟩) (k + 1) capk, .slice Av k cv] 39 := kd_grown (B8.alloc _) (v8.alloc _) g9 (by decide)
           have b90 := B9.cell 0
           have b91 := B9.cell 1
           have bf9 := B9.frozen
           have b9l := B9.lt))
      refine ⟨⟨k + 1, by omega, by go_num, Lib.hid ?_⟩, by simp [intOf]; omega⟩
      have hvk : (Value.slice Av k cv).ownBlock ≠ some gk := by
        intro e
        rcases hat7 with h | h
        · rcases HAP.out with h' | h'
          · rw [h'] at h; cases h
          · exact h' (h.trans e.symm)
        · have := (HX6.out.2.2.1.lt _ e).2
          omega
      have k9 := (k8.alloc (Obj.cells #[.int .i64 xv] 3)).kept g9 (.inr (fun e => hvk e.symm))
      have F8 := F7.trans (FrB.setCell (B := w5.heap.size) (S := [t8]) w7 t8 0 (.slice (some ⟨gk, 0, none⟩) (k + 1) capk) (by simp))
      have F9 := (F8.alloc (by rw [set_size]; exact s7) (Obj.cells #[.int .i64 xv] 3)).grown g9 (by simp [World.setCell]; omega) (fun g hg => (v8.lt g hg).1)
      have hpx := take_snocR HSN.out.1
      refine ⟨⟨_, _, B9.set 1 _, ?_, ?_, ?_⟩, F9.trans (FrB.setCell w9 t8 1 _ (by simp))⟩
      · rw [hpx, List.map_append, List.map_append]
        exact kd_set B9 k9 (by decide)
      · rw [hpx, List.map_append, List.map_append]
        exact kd_set B9 o9 (by decide)
      · right
        show some gk ≠ some gv
        intro e
        cases e
        rcases hat9 with h | h
        · exact hvk h
        · have := (k8.lt gk rfl).2
          rw [set_size] at this
          omega
    · have : k = m.length := by omega
      subst this
      have hres : Blk wr w.heap.size #[.slice none 0 0, .slice none 0 0] 39 := Blk.frB HX5.out.1 hfr HX5.out.1.lt (by
        rw [List.mem_singleton]; omega)
      have c0 := hbx.cell 0
      have c1' := hbx.cell 1
      have r0 := hres.cell 0
      have r1 := hres.cell 1
      have rf := hres.frozen
      have hwl := hres.lt
      have hbl8 := hbx.lt
      rw [List.take_length] at ok1 ov1
      have HF := Lib.hid (And.intro (own_NS (by simp) ok1) (And.intro (own_NS (by simp) ov1) hres))
      clear HX5 HO5 HD ok1 ov1 hbx hres hfr
      go_wp2_with fail
      obtain ⟨g1, g2⟩ := TT.put (w := w) (m2 := m) HF.out.2.2 (Nat.le_refl _) hbel HF.out.1 HF.out.2.1 0 1 (.slice Ak m.length ck) (.slice Av m.length cv)
      exact bodyPost_ret (v := .tuple #[.agg #[.slice Ak m.length ck, .slice Av m.length cv], .bool true]) (by simp [results, Try.results14, go_sem, r0, r1]) rfl ⟨_, _, rfl, g1, g2⟩
end Go.Proofs.Ytpnmgfiifaljjaa.Kp
