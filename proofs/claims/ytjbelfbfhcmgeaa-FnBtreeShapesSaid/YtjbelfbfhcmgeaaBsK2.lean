/- spec.Knots: the parts of a B-tree's nodes. spec.Level: all leaves stand on one level. spec.Both, spec.Held: what the leaves hold. -/
import Derived.Test.YtjbelfbfhcmgeaaBsS
import Derived.Test.YtjbelfbfhcmgeaaBsF
import Derived.Test.YtjbelfbfhcmgeaaKid1
import Derived.Test.YtjbelfbfhcmgeaaActs
namespace Go.Proofs.Ytjbelfbfhcmgeaa.Kp
open Go.RowKit Om

theorem NB.below {w w' : World} {v : Value} {xs : List Bool} (h : NB w v xs) (hb : Below w.heap.size w w') : NB w' v xs := h.keep (KeepT.below hb)
theorem NB.sl {w : World} {v : Value} {xs : List Bool} (h : NB w v xs) : SlC 1 bool1 w w.heap.size v xs := by
  rcases h.is with ⟨rfl, rfl⟩ | ⟨b, off, c, cur, rfl, h1, h2, h3, h4⟩
  · exact ⟨⟨_, _, rfl, .inl rfl⟩⟩
  · refine ⟨⟨_, c, rfl, .inr ⟨b, off, rfl, by omega, h3.lt, h3.lt, fun i x hi j u hj => ?_⟩⟩⟩
    have hj0 : j = 0 := by
      have := (List.getElem?_eq_some_iff.1 hj).1
      simp [bool1] at this; exact this
    subst hj0
    rw [show (⟨b, off + i * 1 + 0, none⟩ : Addr) = ⟨b, off + i, none⟩ by simp, h3.cell]
    have := h4 i x hi
    rw [this]; simpa [bool1] using hj
theorem NB.hnone {w : World} {v : Value} {xs : List Bool} (h : NB w v xs) : ∀ m c, v = .slice none m c → m = 0 ∧ c = 0 := by
  rcases h.is with ⟨rfl, rfl⟩ | ⟨b, off, c, cur, rfl, _⟩
  · intro m c e; cases e; exact ⟨rfl, rfl⟩
  · intro m c e; cases e
/-- the table of flags so far. -/
structure TabK (B : Nat) (has : List (List Bool)) (v : Value) (w wr : World) : Prop where
  is : ∃ cells, wr.ownsRow B 36 1 v has.length cells ∧ ∀ (i : Nat) (bs : List Bool), has[i]? = some bs → ∃ u, cells[i]? = some u ∧ NB wr u bs
  below : Below B w wr
theorem TabK.start (w : World) (B : Nat) : TabK B [] (.slice none 0 0) w w := ⟨⟨[], World.ownsRow_nil _ _ _ _, fun i bs h => by simp at h⟩, Below.refl _ _⟩
theorem TabK.go {B : Nat} {has : List (List Bool)} {v : Value} {w wr w' : World} (h : TabK B has v w wr) (hB : B ≤ wr.heap.size) (hb : Below wr.heap.size wr w') : TabK B has v w w' := by
  obtain ⟨⟨cells, h1, h2⟩, h3⟩ := h
  exact ⟨⟨cells, kd_below hb h1, fun i bs hi => by obtain ⟨u, a, b⟩ := h2 i bs hi; exact ⟨u, a, b.below hb⟩⟩, h3.trans (hb.mono hB)⟩
theorem TabK.next {B : Nat} {has : List (List Bool)} {v v' u : Value} {cells : List Value} {bs : List Bool} {w wr w3 : World} {o : Obj} (hb : Below B w wr) (hB : B ≤ wr.heap.size) (hc : wr.ownsRow B 36 1 v has.length cells) (hr : ∀ (i : Nat) (bs : List Bool), has[i]? = some bs → ∃ u, cells[i]? = some u ∧ NB wr u bs) (hu : NB wr u bs)
    (ho : w3.ownsRow B 36 1 v' (has.length + 1) (cells ++ [u])) (hg : (wr.alloc o).grownBy w3 v.ownBlock) : TabK B (has ++ [bs]) v' w w3 := by
  have K : KeepT 4 wr w3 := (KeepT.below ((Below.refl _ wr).alloc (Nat.le_refl _) o)).trans (fun b cur hb => kd_grown hb (hc.alloc o) hg (by decide))
  have hcl : cells.length = has.length := by have := hc.1; omega
  refine ⟨⟨_, by simpa using ho, fun i bs' hi => ?_⟩, ?_⟩
  · rcases Nat.lt_or_ge i has.length with h | h
    · rw [List.getElem?_append_left h] at hi
      obtain ⟨u', h1, h2⟩ := hr i bs' hi
      exact ⟨u', by rw [List.getElem?_append_left (by omega)]; exact h1, h2.keep K⟩
    · rw [List.getElem?_append_right h] at hi
      have e : i = has.length := by
        have := (List.getElem?_eq_some_iff.1 hi).1
        simp at this; omega
      subst e
      simp at hi
      subst hi
      exact ⟨u, by rw [List.getElem?_append_right (by omega), hcl]; simp, hu.keep K⟩
  · exact (hb.alloc hB _).grown hg (by simp; omega) (fun g hg => (hc.lt g hg).1)
theorem TabK.ss {B : Nat} {has : List (List Bool)} {v : Value} {w wr : World} (h : TabK B has v w wr) : SS bool1 wr wr.heap.size v has := by
  obtain ⟨cells, h1, h2⟩ := h.is
  rcases h1.2 with ⟨e, h0⟩ | ⟨g, cap, cur, e, a1, a2, a3, a4, a5, a6⟩
  · have := List.length_eq_zero_iff.1 h0
    subst this
    exact ⟨⟨_, _, e, .inl rfl⟩⟩
  · have hb : Blk wr g cur 36 := a2
    refine ⟨⟨_, cap, e, .inr ⟨g, 0, rfl, a3, hb.lt, hb.lt, fun i xs hi => ?_⟩⟩⟩
    obtain ⟨u, c1, c3⟩ := h2 i xs hi
    refine ⟨u, ?_, c3.sl⟩
    have hil := (List.getElem?_eq_some_iff.1 hi).1
    rw [Nat.zero_add, hb.cell i]
    rw [← a6, List.getElem?_take_of_lt (by omega)] at c1
    simpa using c1
theorem Try.infoFlags : (Try.prog.info? 36).map (fun i => (i.zero, i.size, i.bytes)) = some (some (.slice none 0 0), 1, 24) := by kernel_rfl
theorem rep_snoc (k : Nat) : (List.replicate k true).map boolv ++ [.bool true] = (List.replicate (k + 1) true).map boolv := by
  rw [List.replicate_succ', List.map_append]; rfl
set_option maxRecDepth 100000 in
set_option maxHeartbeats 1600000 in
theorem knots_calls (ns : List KnD) (hn : ns.length ≤ 5000000000) (hk : ∀ d ∈ ns, d.keys.length ≤ 64 ∧ (d.leaf = false → 0 < d.keys.length)) (nv : Value) (w : World) (hs : KR w nv ns) :
    Calls Try.prog 12 #[nv] w (KidsPost (hasK ns) w) := by
  obtain ⟨i0, hi0, hz0, hz1, hz2⟩ := info_parts Try.infoFlags
  obtain ⟨j0, hj0, hy0, hy1, hy2⟩ := info_parts Try.infoBool
  obtain ⟨A, c, rfl⟩ := hs.form
  have HS := Lib.hid (And.intro hs hk)
  clear hs hk
  go_enter Try.func12, Try.ntmps12
  go_wp2_with fail
  go_loopw [4, 5] (fun v i wr => ∃ k : Nat, k ≤ ns.length ∧ i = .int .i64 (k : Nat) ∧ Hid (TabK w.heap.size (hasK (ns.take k)) v w wr)) (fun _ i _ => ns.length - (intOf i).toNat)
  case atStart => exact ⟨0, Nat.zero_le _, rfl, Lib.hid (TabK.start _ _)⟩
  case round =>
    obtain ⟨i, hi, rfl, HK⟩ := hrel
    by_cases hlt : i < ns.length
    · obtain ⟨W, hW⟩ : ∃ W, W = wr := ⟨_, rfl⟩
      subst hW
      obtain ⟨d, hd⟩ : ∃ e, ns[i]? = some e := ⟨_, List.getElem?_eq_getElem hlt⟩
      have hBW := HK.out.below.size
      obtain ⟨cells, hown, hrows⟩ := HK.out.is
      obtain ⟨A4, c4, rfl⟩ := kd_form hown
      have hkl : (hasK (ns.take i)).length = i := by rw [hasK_len, List.length_take]; omega
      rw [hkl] at hown ⊢
      have HRO := Lib.hid (And.intro hrows (And.intro hown hkl))
      obtain ⟨hdk, hdp⟩ := HS.out.2 d (List.mem_of_getElem? hd)
      have e1 : hasK (ns.take (i + 1)) = hasK (ns.take i) ++ [flagK d] := by
        rw [List.take_add_one, hd]; simp [hasK]
      have HE := Lib.hid e1
      have hbw := HK.out.below
      have HR := Lib.hid (fun w' (hb : Below w.heap.size w w') => (HS.out.1.below hb).at_ hd)
      clear hrows hown hkl e1 hd
      cases hl : d.leaf with
      | true =>
        have hf : flagK d = [] := by unfold flagK; rw [hl]; rfl
        obtain ⟨b, off, ka, va, ba, rfl, h1, h3, q0, q1, _, _, n1, _, _⟩ := HR.out W hbw
        obtain ⟨Ak, ck, rfl⟩ := n1.form
        rw [hl] at q0
        have HF := Lib.hid hf
        clear hf n1 hl hdp
        go_wp2_with fail
        go_loopw [6, 7] (fun v k wx => v = .slice none 0 0 ∧ k = .int .i64 0 ∧ wx = W) (fun _ _ _ => 0)
        case atStart => exact ⟨rfl, rfl, rfl⟩
        case round =>
          obtain ⟨rfl, rfl, rfl⟩ := hrel
          go_wp2_with (at_builtin; refine wpList_append_own _ rfl (.tmp 46) (.tmp 48) 70 rfl w.heap.size 36 i0 _ 1 24 Try.underlying70 hi0 hz0 hz1 hz2 rfl (by omega) (.slice A4 i c4) i cells rfl (HRO.out.2.1.alloc _) ⟨wr.heap.size, 0, none⟩ 1 1 [.slice none 0 0] rfl rfl (kd_news (Blk.new wr _ _)) (by simp [Value.oneCell']) (by unfold maxLen; omega) (by omega) (by simp; omega) ?_; intro v' w5 o5 g5 _)
          all_goals
            have HN := Lib.hid (TabK.next (bs := flagK d) (u := .slice none 0 0) hbw hBW (by rw [HRO.out.2.2]; exact HRO.out.2.1) HRO.out.1 (by rw [HF.out]; exact NB.nil _) (by rw [HRO.out.2.2]; exact o5) g5)
            clear o5 g5
            go_wp2_with fail
            exact ⟨⟨i + 1, by omega, by go_num, Lib.hid (by rw [HE.out]; exact HN.out)⟩, by simp [intOf]; omega⟩
      | false =>
        have hf : flagK d = List.replicate d.keys.length true := by unfold flagK; rw [hl]; rfl
        have hdp := hdp hl
        obtain ⟨b, off, ka, va, ba, rfl, h1, h3, q0, q1, _, _, n1, _, _⟩ := HR.out W hbw
        obtain ⟨Ak, ck, rfl⟩ := n1.form
        rw [hl] at q0
        have HF := Lib.hid hf
        have hq : ∀ wx, Below W.heap.size W wx → wx.cell? ⟨b, off + i * 4, none⟩ = some (.bool false) ∧ wx.cell? ⟨b, off + i * 4 + 1, none⟩ = some (.slice Ak d.keys.length ck) := fun wx hb =>
          ⟨(hb.cell (p := ⟨b, off + i * 4, none⟩) h3).trans q0, (hb.cell (p := ⟨b, off + i * 4 + 1, none⟩) h3).trans q1⟩
        have HQ := Lib.hid hq
        clear hf n1 hl hq q0 q1
        go_wp2_with fail
        go_loopw [6, 7] (fun v kk wx => ∃ k : Nat, k ≤ d.keys.length ∧ kk = .int .i64 (k : Nat) ∧ Hid (wx.ownsRow W.heap.size 4 1 v k ((List.replicate k true).map boolv) ∧ Below W.heap.size W wx)) (fun _ kk _ => d.keys.length - (intOf kk).toNat)
        case atStart => exact ⟨0, Nat.zero_le _, rfl, Lib.hid ⟨World.ownsRow_nil _ _ _ _, Below.refl _ _⟩⟩
        case round =>
          obtain ⟨k, hk, rfl, HP⟩ := hrel
          obtain ⟨q0, q1⟩ := HQ.out wr HP.out.2
          have hsz := HP.out.2.size
          have hb3 : b < wr.heap.size := by omega
          obtain ⟨Ap, cp, rfl⟩ := kd_form HP.out.1
          by_cases hlk : k < d.keys.length
          · go_wp2_with (at_builtin; refine wpList_append_own _ rfl (.tmp 32) (.tmp 33) 36 rfl W.heap.size 4 j0 _ 1 1 Try.underlying36 hj0 hy0 hy1 hy2 rfl (by omega) (.slice Ap k cp) k ((List.replicate k true).map boolv) rfl (HP.out.1.alloc _) ⟨wr.heap.size, 0, none⟩ 1 1 [.bool true] rfl rfl (kd_news (Blk.new wr _ _)) (by simp [Value.oneCell']) (by unfold maxLen; omega) (by omega) (by simp; omega) ?_; intro v' w5 o5 g5 _)
            rw [rep_snoc] at o5
            have HN := Lib.hid (And.intro o5 ((HP.out.2.alloc hsz _).grown g5 (by simp; omega) (fun g hg => (HP.out.1.lt g hg).1)))
            clear o5 g5
            go_wp2_with fail
            exact ⟨⟨k + 1, by omega, by go_num, HN⟩, by simp [intOf]; omega⟩
          · have : k = d.keys.length := by omega
            subst this
            have hz : ((d.keys.length : Int) == 0) = false := by rw [beq_eq_false_iff_ne]; omega
            have hTT := (HK.out.go hBW HP.out.2)
            obtain ⟨cells2, hown2, hrows2⟩ := hTT.is
            rw [HRO.out.2.2] at hown2
            have HTT := Lib.hid (And.intro hTT.below (And.intro hown2 hrows2))
            have hws : w.heap.size ≤ wr.heap.size := Nat.le_trans hBW hsz
            have HNB := Lib.hid (own_NB (xs := List.replicate d.keys.length true) (by simp) HP.out.1)
            clear hTT hown2 hrows2
            go_wp2_with (at_builtin; refine wpList_append_own _ rfl (.tmp 46) (.tmp 48) 70 rfl w.heap.size 36 i0 _ 1 24 Try.underlying70 hi0 hz0 hz1 hz2 rfl (by omega) (.slice A4 i c4) i cells2 rfl (HTT.out.2.1.alloc _) ⟨wr.heap.size, 0, none⟩ 1 1 [.slice Ap d.keys.length cp] rfl rfl (kd_news (Blk.new wr _ _)) (by simp [Value.oneCell']) (by unfold maxLen; omega) (by omega) (by simp; omega) ?_; intro v' w5 o5 g5 _)
            have HN := Lib.hid (TabK.next (bs := flagK d) (u := .slice Ap d.keys.length cp) HTT.out.1 hws (by rw [HRO.out.2.2]; exact HTT.out.2.1) HTT.out.2.2 (by rw [HF.out]; exact HNB.out) (by rw [HRO.out.2.2]; exact o5) g5)
            clear o5 g5
            go_wp2_with fail
            exact ⟨⟨i + 1, by omega, by go_num, Lib.hid (by rw [HE.out]; exact HN.out)⟩, by simp [intOf]; omega⟩
    · have : i = ns.length := by omega
      subst this
      have hT := HK.out
      rw [List.take_length] at hT
      have hLK := hasK_len ns
      obtain ⟨A4, c4, rfl⟩ := kd_form hT.is.choose_spec.1
      have HT := Lib.hid hT
      rw [hLK]
      clear hT hLK
      go_wp2_with fail
      refine (kids_calls (hasK ns) (by rw [hasK_len]; omega) (fun bs hb => ?_) _ wr (by rw [← hasK_len ns]; exact HT.out.ss)).mono ?_
      · unfold hasK at hb
        obtain ⟨x, hx, rfl⟩ := List.mem_map.1 hb
        unfold flagK
        have := (HS.out.2 x hx).1
        split <;> simp; omega
      rintro e w2 ⟨hb2, v2, rfl, A5, c5, rfl, hv2⟩
      have H2 := Lib.hid (And.intro hb2 hv2)
      clear hb2 hv2
      go_wp2_with fail
      go_ret2
      exact ⟨HT.out.below.trans (H2.out.1.mono HT.out.below.size), _, rfl, _, _, rfl, H2.out.2⟩
end Go.Proofs.Ytjbelfbfhcmgeaa.Kp
namespace Go.Proofs.Ytjbelfbfhcmgeaa.Kp
open Go.RowKit Om Bt

/-- the table of places of a list of nodes. -/
def KT2 (w : World) (B : Nat) (kv : Value) (ns : List KnD) : Prop := SS num1 w B kv ((List.range ns.length).map (kidsAt (hasK ns)))
theorem KT2.form {w : World} {B : Nat} {kv : Value} {ns : List KnD} (h : KT2 w B kv ns) : ∃ A c, kv = .slice A ns.length c := by
  obtain ⟨A, c, e⟩ := SS.form h
  exact ⟨A, c, by rw [e]; simp⟩
theorem KT2.go {w w' : World} {kv : Value} {ns : List KnD} (h : KT2 w w.heap.size kv ns) (hb : Below w.heap.size w w') : KT2 w' w'.heap.size kv ns := (SS.below h hb).mono hb.size
theorem KT2.at_ {w : World} {B n c : Nat} {A : Option Addr} {ns : List KnD} (h : KT2 w B (.slice A n c) ns) {p m : Nat} {ks : List (Int × BE m)} (hs : StE ns p (m + 1) ks) : ∃ b off A2 c2, A = some ⟨b, off, none⟩ ∧ ns.length ≤ c ∧ b < w.heap.size ∧ w.cell? ⟨b, off + p, none⟩ = some (.slice A2 ks.length c2) ∧
    ∀ k, k < ks.length → ∃ b2 off2, A2 = some ⟨b2, off2, none⟩ ∧ ks.length ≤ c2 ∧ b2 < w.heap.size ∧ w.cell? ⟨b2, off2 + k, none⟩ = some (.int .i64 (posK ks p k : Nat)) := by
  have hle := hs.lt
  have hp : p < ((List.range ns.length).map (kidsAt (hasK ns))).length := by simp; omega
  obtain ⟨b, off, A2, c2, e, h1, h2, h3, h4, h5⟩ := SS.at_ h hp
  have hg : ((List.range ns.length).map (kidsAt (hasK ns))).getD p [] = (List.range ks.length).map fun k => (posK ks p k : Int) := by
    rw [List.getD_eq_getElem?_getD, List.getElem?_map, List.getElem?_range hle]
    simp [hs.kids]
  rw [hg] at h4 h5
  rw [List.length_map, List.length_range] at h4 h5
  refine ⟨b, off, A2, c2, e, by simpa using h1, h3, h4, fun k hk => ?_⟩
  have hx : ((List.range ks.length).map fun k => (posK ks p k : Int))[k]? = some (posK ks p k : Int) := by
    rw [List.getElem?_map, List.getElem?_range hk]; rfl
  obtain ⟨b2, off2, e2, g1, g2, g3⟩ := one_at h5 hx (u := .int .i64 (posK ks p k : Nat)) rfl
  exact ⟨b2, off2, e2, by simpa using g1, World.block_lt_of_cell? w ⟨b2, off2 + k, none⟩ g3, g3⟩
def LvOk (r : Int → Int) (ns : List KnD) (nv kv : Value) (w : World) (h : Nat) : Prop := ∀ (t : BE h) (p : Nat), Bt.Wf r h t → StE ns p h t → Calls Try.prog 13 #[nv, kv, .int .i64 (p : Nat), .int .i64 (h : Nat)] w fun e w' => e = .returned (.bool true) ∧ w' = w
theorem LvOk.at_ {r : Int → Int} {ns : List KnD} {nv kv : Value} {w : World} {h : Nat} (H : LvOk r ns nv kv w h) (t : BE h) (p : Nat) (hw : Bt.Wf r h t) (hs : StE ns p h t) : Calls Try.prog 13 #[nv, kv, .int .i64 (p : Nat), .int .i64 (h : Nat)] w fun e w' => e = .returned (.bool true) ∧ w' = w := H t p hw hs
set_option maxRecDepth 100000 in
set_option maxHeartbeats 1600000 in
theorem level_zero (ns : List KnD) (hn : ns.length ≤ 5000000000) (nv kv : Value) (w : World) (hr : KR w nv ns) (hk : KT2 w w.heap.size kv ns) (es : List LE) (p : Nat) (hs : StE ns p 0 es) :
    Calls Try.prog 13 #[nv, kv, .int .i64 (p : Nat), .int .i64 0] w fun e w' => e = .returned (.bool true) ∧ w' = w := by
  obtain ⟨A, c, rfl⟩ := hr.form
  obtain ⟨A2, c2, rfl⟩ := hk.form
  have hp := hs.lt
  obtain ⟨b, off, ka, va, ba, rfl, h1, h3, q0, _, _, _, _, _, _⟩ := hr.at_ hs.leaf
  replace q0 : w.cell? ⟨b, off + p * 4, none⟩ = some (.bool true) := q0
  clear hr hk hs
  have d0 : decide ((p : Int) < 0) = false := decide_eq_false (by omega)
  have d1 : decide (ns.length ≤ p) = false := decide_eq_false (by omega)
  go_enter Try.func13, Try.ntmps13
  go_wp2
  go_ret
  exact ⟨rfl, rfl⟩
set_option maxRecDepth 100000 in
set_option maxHeartbeats 1600000 in
theorem level_succ {r : Int → Int} (ns : List KnD) (hn : ns.length ≤ 5000000000) (nv kv : Value) (w : World) (hr : KR w nv ns) (hk : KT2 w w.heap.size kv ns) (h : Nat) (hh : h ≤ 1000000000000) (ih : LvOk r ns nv kv w h) (ks : List (Int × BE h)) (p : Nat) (hs : StE ns p (h + 1) ks) (hw : Bt.Wf r (h + 1) ks) :
    Calls Try.prog 13 #[nv, kv, .int .i64 (p : Nat), .int .i64 ((h : Int) + 1)] w fun e w' => e = .returned (.bool true) ∧ w' = w := by
  obtain ⟨A, c, rfl⟩ := hr.form
  obtain ⟨A2, c2, rfl⟩ := hk.form
  have hp := hs.lt
  obtain ⟨b, off, ka, va, ba, rfl, h1, h3, q0, _, _, _, _, _, _⟩ := hr.at_ hs.node
  replace q0 : w.cell? ⟨b, off + p * 4, none⟩ = some (.bool false) := q0
  obtain ⟨kb, koff, A3, c3, rfl, k1, k3, q1, hq⟩ := hk.at_ hs
  have HQ := Lib.hid hq
  have hw' : WfN r (Bt.Wf r h) (Bt.flat h) ks := hw
  have HS := Lib.hid (And.intro hs (And.intro ih hw'.2.2.1))
  have hks : ks.length ≤ 64 := by have := hw'.2.1; omega
  clear hr hk hs hq ih hw hw'
  have d0 : decide ((p : Int) < 0) = false := decide_eq_false (by omega)
  have d1 : decide (ns.length ≤ p) = false := decide_eq_false (by omega)
  have dh : decide (0 < (h : Int) + 1) = true := decide_eq_true (by omega)
  have hhw : IntKind.i64.wrap (h : Int) = (h : Int) := IntWalk.i64_in _ (by omega)
  go_enter Try.func13, Try.ntmps13
  go_wp2_with fail
  go_loopw [9] (fun i wx => ∃ k : Nat, k ≤ ks.length ∧ i = .int .i64 (k : Nat) ∧ wx = w) (fun i _ => ks.length - (intOf i).toNat)
  case atStart => exact ⟨0, Nat.zero_le _, by first | exact trivial | rfl, by first | exact trivial | rfl⟩
  case round =>
    obtain ⟨k, hkl, rfl, rfl⟩ := hrel
    by_cases hlt : k < ks.length
    · obtain ⟨b2, off2, rfl, g1, g3, q2⟩ := HQ.out k hlt
      have he : ks[k]? = some (ks[k]'hlt) := List.getElem?_eq_getElem _
      generalize ks[k]'hlt = e at he
      have HC := Lib.hid (HS.out.2.1.at_ e.2 _ (HS.out.2.2 e (List.mem_of_getElem? he)).1 (HS.out.1.part he))
      clear he
      go_wp2_with fail
      refine HC.out.mono ?_
      rintro e' w2 ⟨rfl, rfl⟩
      go_wp2_with fail
      exact ⟨⟨k + 1, by omega, by go_num, by first | exact trivial | rfl⟩, by simp [intOf]; omega⟩
    · have : k = ks.length := by omega
      subst this
      go_wp2
      go_ret
      exact ⟨rfl, rfl⟩
theorem level_calls {r : Int → Int} (ns : List KnD) (hn : ns.length ≤ 5000000000) (nv kv : Value) (w : World) (hr : KR w nv ns) (hk : KT2 w w.heap.size kv ns) : ∀ (h : Nat), h ≤ 1000000000000 → ∀ (t : BE h) (p : Nat), Bt.Wf r h t → StE ns p h t →
    Calls Try.prog 13 #[nv, kv, .int .i64 (p : Nat), .int .i64 (h : Nat)] w fun e w' => e = .returned (.bool true) ∧ w' = w := by
  intro h
  induction h with
  | zero => intro _ t p hw hs; exact level_zero ns hn nv kv w hr hk t p hs
  | succ h ih => intro hh t p hw hs; exact level_succ ns hn nv kv w hr hk h (by omega) (fun t p hw hs => ih (by omega) t p hw hs) t p hs hw
end Go.Proofs.Ytjbelfbfhcmgeaa.Kp
namespace Go.Proofs.Ytjbelfbfhcmgeaa.Kp
open Go.RowKit Om Bt

set_option maxRecDepth 100000 in
set_option maxHeartbeats 1600000 in
theorem both_calls (xs ys : List Int) (xv yv : Value) (w : World) (hx : NS w xv xs) (hy : NS w yv ys) (hl : xs.length + ys.length ≤ 100000000000) :
    Calls Try.prog 34 #[xv, yv] w fun e w' => ∃ v, e = .returned v ∧ NS w' v (xs ++ ys) ∧ Below w.heap.size w w' := by
  obtain ⟨i0, hi0, hz0, hz1, hz2⟩ := info_parts Try.info3
  obtain ⟨A, c, rfl⟩ := hx.form
  obtain ⟨A2, c2, rfl⟩ := hy.form
  have hEm : Below w.heap.size w (w.alloc (Obj.cells #[] 3)) := (Below.refl _ _).alloc (Nat.le_refl _) _
  have HEM := Lib.hid (And.intro (own_mt w 3 1) hEm)
  have HX := Lib.hid (And.intro (SlC.below hx.sl hEm) hx.hnone)
  have HY := Lib.hid (And.intro hy.sl hy.hnone)
  clear hx hy hEm
  go_enter Try.func34, Try.ntmps34
  go_wp2_with (at_builtin; first
    | (refine wpList_append_C num1_len _ rfl (.tmp 6) (.tmp 7) 22 rfl w.heap.size 3 i0 _ 8 Try.underlying22 hi0 hz0 hz1 hz2 rfl (by omega) _ 0 [] rfl HEM.out.1 _ xs rfl HX.out.1 HX.out.2 (by intro a; simp [num1, Value.oneCell']) (by unfold maxLen; omega) (by omega) (by simp) ?_
       intro v6 w6 o6 g6
       have B6 : Below w.heap.size w w6 := HEM.out.2.grown g6 HEM.out.2.size (fun g hg => (HEM.out.1.lt g hg).1)
       have s6 := B6.size)
    | (refine wpList_append_C num1_len _ rfl (.tmp 9) (.tmp 10) 22 rfl w.heap.size 3 i0 _ 8 Try.underlying22 hi0 hz0 hz1 hz2 rfl (by omega) _ (0 + xs.length) _ rfl o6 _ ys rfl (SlC.below HY.out.1 B6) HY.out.2 (by intro a; simp [num1, Value.oneCell']) (by unfold maxLen; omega) (by omega) (by omega) ?_
       intro v7 w7 o7 g7))
  have B7 : Below w.heap.size w w7 := B6.grown g7 s6 (fun g hg => (o6.lt g hg).1)
  rw [List.nil_append, num1_flat, num1_flat, ← List.map_append] at o7
  have HN := Lib.hid (And.intro (own_NS (by simp) o7) B7)
  clear o7 g7 o6 g6 B6 B7
  go_wp2_with fail
  go_ret
  exact ⟨_, rfl, HN.out.1, HN.out.2⟩
theorem results_tmp4 {fn : Func} {t u v x : Tmp} (h : fn.results = #[.tmp t, .tmp u, .tmp v, .tmp x]) (tmps : Array Value) (P : Program) (w : World) :
    (results fn tmps).run P w = .ok (.tuple #[tmps.getD t undef, tmps.getD u undef, tmps.getD v undef, tmps.getD x undef]) w := by
  simp [results, h]
/-- what is told of a part's leaves. -/
def HdPost (w : World) (F : List LE) (e : Ending) (w' : World) : Prop := ∃ kv vv bv, e = .returned (.tuple #[kv, vv, bv, .bool true]) ∧ NS w' kv (F.map fun e => e.1) ∧ NS w' vv (F.map fun e => e.2.1) ∧ NB w' bv (F.map fun e => e.2.2) ∧ Below w.heap.size w w'
def HdOk (r : Int → Int) (ns : List KnD) (nv kv : Value) (h : Nat) : Prop := ∀ (t : BE h) (p : Nat) (w : World), Bt.Wf r h t → StE ns p h t → KR w nv ns → KT2 w w.heap.size kv ns → (Bt.flat h t).length ≤ 10000000000 →
    Calls Try.prog 15 #[nv, kv, .int .i64 (p : Nat)] w (HdPost w (Bt.flat h t))
theorem HdOk.at_ {r : Int → Int} {ns : List KnD} {nv kv : Value} {h : Nat} (H : HdOk r ns nv kv h) (t : BE h) (p : Nat) (w : World) (h1 : Bt.Wf r h t) (h2 : StE ns p h t) (h3 : KR w nv ns) (h4 : KT2 w w.heap.size kv ns) (h5 : (Bt.flat h t).length ≤ 10000000000) :
    Calls Try.prog 15 #[nv, kv, .int .i64 (p : Nat)] w (HdPost w (Bt.flat h t)) := H t p w h1 h2 h3 h4 h5
set_option maxRecDepth 100000 in
set_option maxHeartbeats 1600000 in
theorem held_zero (ns : List KnD) (hn : ns.length ≤ 5000000000) (nv kv : Value) (w : World) (hr : KR w nv ns) (hk : KT2 w w.heap.size kv ns) (es : List LE) (p : Nat) (hs : StE ns p 0 es) :
    Calls Try.prog 15 #[nv, kv, .int .i64 (p : Nat)] w (HdPost w es) := by
  obtain ⟨A, c, rfl⟩ := hr.form
  obtain ⟨A2, c2, rfl⟩ := hk.form
  have hp := hs.lt
  obtain ⟨b, off, ka, va, ba, rfl, h1, h3, q0, q1, q2, q3, n1, n2, n3⟩ := hr.at_ hs.leaf
  replace q0 : w.cell? ⟨b, off + p * 4, none⟩ = some (.bool true) := q0
  replace n1 : NS w ka (es.map fun e => e.1) := n1
  replace n2 : NS w va (es.map fun e => e.2.1) := n2
  replace n3 : NB w ba (es.map fun e => e.2.2) := n3
  have f1 := n1.form
  have f2 := n2.form
  have f3 := n3.form
  rw [List.length_map] at f1 f2 f3
  obtain ⟨Ak, ck, rfl⟩ := f1
  obtain ⟨Av, cv, rfl⟩ := f2
  obtain ⟨Ab, cb, rfl⟩ := f3
  have HN := Lib.hid (And.intro n1 (And.intro n2 n3))
  have hee : ((es.length : Int) == (es.length : Int)) = true := by simp
  clear hr hk hs n1 n2 n3
  have d0 : decide ((p : Int) < 0) = false := decide_eq_false (by omega)
  have d1 : decide (ns.length ≤ p) = false := decide_eq_false (by omega)
  go_enter Try.func15, Try.ntmps15
  go_wp2_with fail
  go_quiet (fail)
  go_wp2_with fail
  (try simp only [Exit.inBlock, Exit.then])
  refine bodyPost_ret (results_tmp4 rfl _ _ _) rfl ?_
  exact ⟨_, _, _, rfl, HN.out.1.below (Below.drewN _ _), HN.out.2.1.below (Below.drewN _ _), HN.out.2.2.below (Below.drewN _ _), Below.drewN _ _⟩
theorem bool1_flat : ∀ xs : List Bool, xs.flatMap bool1 = xs.map boolv
  | [] => rfl
  | x :: xs => by rw [List.flatMap_cons, bool1_flat xs]; rfl
/-- what the first parts hold. -/
def flK {h : Nat} (ks : List (Int × BE h)) (k : Nat) : List LE := flatN (Bt.flat h) (ks.take k)
theorem flK_succ {h : Nat} {ks : List (Int × BE h)} {k : Nat} {e : Int × BE h} (he : ks[k]? = some e) : flK ks (k + 1) = flK ks k ++ Bt.flat h e.2 := by
  unfold flK flatN; rw [List.take_add_one, he]; simp
theorem flK_le {h : Nat} {ks : List (Int × BE h)} (k : Nat) : (flK ks k).length ≤ (flatN (Bt.flat h) ks).length := by
  have : flatN (Bt.flat h) ks = flK ks k ++ flatN (Bt.flat h) (ks.drop k) := by
    unfold flK flatN
    rw [← List.flatMap_append, List.take_append_drop]
  rw [this, List.length_append]; omega
structure HdI (w : World) (F : List LE) (kv vv bv : Value) (wx : World) : Prop where
  k : NS wx kv (F.map fun e => e.1)
  v : NS wx vv (F.map fun e => e.2.1)
  b : wx.ownsRow w.heap.size 4 1 bv F.length ((F.map fun e => e.2.2).map boolv)
  bel : Below w.heap.size w wx
set_option maxRecDepth 100000 in
set_option maxHeartbeats 3200000 in
theorem held_succ {r : Int → Int} (ns : List KnD) (hn : ns.length ≤ 5000000000) (nv kv : Value) (h : Nat) (ih : HdOk r ns nv kv h) (ks : List (Int × BE h)) (p : Nat) (w : World) (hw : Bt.Wf r (h + 1) ks) (hs : StE ns p (h + 1) ks) (hr : KR w nv ns) (hk : KT2 w w.heap.size kv ns) (hl : (flatN (Bt.flat h) ks).length ≤ 10000000000) :
    Calls Try.prog 15 #[nv, kv, .int .i64 (p : Nat)] w (HdPost w (flatN (Bt.flat h) ks)) := by
  obtain ⟨j0, hj0, hy0, hy1, hy2⟩ := info_parts Try.infoBool
  obtain ⟨A, c, rfl⟩ := hr.form
  obtain ⟨A2, c2, rfl⟩ := hk.form
  have hp := hs.lt
  obtain ⟨b, off, ka, va, ba, rfl, h1, h3, q0, _, _, _, _, _, _⟩ := hr.at_ hs.node
  replace q0 : w.cell? ⟨b, off + p * 4, none⟩ = some (.bool false) := q0
  obtain ⟨kb, koff, A3, c3, rfl, k1, k3, q1, hq⟩ := hk.at_ hs
  have HQ := Lib.hid hq
  have hw' : WfN r (Bt.Wf r h) (Bt.flat h) ks := hw
  have HS := Lib.hid (And.intro hs (And.intro ih hw'.2.2.1))
  have HK := Lib.hid (And.intro hr (And.intro hk hl))
  have HC := Lib.hid (fun wx (hb : Below w.heap.size w wx) => And.intro ((hb.cell (p := ⟨b, off + p * 4, none⟩) h3).trans q0) ((hb.cell (p := ⟨kb, koff + p, none⟩) k3).trans q1))
  have hks : ks.length ≤ 64 := by have := hw'.2.1; omega
  clear hr hk hs hq ih hw hw' hl
  have d0 : decide ((p : Int) < 0) = false := decide_eq_false (by omega)
  have d1 : decide (ns.length ≤ p) = false := decide_eq_false (by omega)
  go_enter Try.func15, Try.ntmps15
  go_wp2_with fail
  go_loopw [11, 12, 13, 14] (fun kv' vv' bv' i wx => ∃ k : Nat, k ≤ ks.length ∧ i = .int .i64 (k : Nat) ∧ Hid (HdI w (flK ks k) kv' vv' bv' wx)) (fun _ _ _ i _ => ks.length - (intOf i).toNat)
  case atStart => exact ⟨0, Nat.zero_le _, rfl, Lib.hid ⟨NS.nil _, NS.nil _, World.ownsRow_nil _ _ _ _, Below.refl _ _⟩⟩
  case round =>
    obtain ⟨k, hkl, rfl, HI⟩ := hrel
    obtain ⟨q0', q1'⟩ := HC.out wr HI.out.bel
    have hsz := HI.out.bel.size
    have bl1 : b < wr.heap.size := by omega
    have bl2 : kb < wr.heap.size := by omega
    have f1 := HI.out.k.form
    have f2 := HI.out.v.form
    rw [List.length_map] at f1 f2
    obtain ⟨Ak, ck, rfl⟩ := f1
    obtain ⟨Av, cv, rfl⟩ := f2
    obtain ⟨Ab, cb, rfl⟩ := kd_form HI.out.b
    have hfl := flK_le (ks := ks) k
    have hfl2 := HK.out.2.2
    by_cases hlt : k < ks.length
    · obtain ⟨b2, off2, rfl, g1, g3, q2⟩ := HQ.out k hlt
      have q2' := (HI.out.bel.cell (p := ⟨b2, off2 + k, none⟩) g3).trans q2
      have bl3 : b2 < wr.heap.size := by omega
      have he : ks[k]? = some (ks[k]'hlt) := List.getElem?_eq_getElem _
      generalize ks[k]'hlt = e at he
      have hsum : (flK ks k).length + (Bt.flat h e.2).length ≤ 10000000000 := by
        have h1 := flK_le (ks := ks) (k + 1)
        rw [flK_succ he, List.length_append] at h1
        omega
      have HCa := Lib.hid (HS.out.2.1.at_ e.2 _ wr (HS.out.2.2 e (List.mem_of_getElem? he)).1 (HS.out.1.part he) (HK.out.1.below HI.out.bel) (HK.out.2.1.go HI.out.bel) (by omega))
      have HFS := Lib.hid (flK_succ he)
      generalize Bt.flat h e.2 = G at HCa HFS hsum
      clear he q2 hfl hfl2
      go_wp2_with fail
      refine HCa.out.mono ?_
      rintro e' w2 ⟨kv2, vv2, bv2, rfl, n1, n2, n3, b2'⟩
      have f1 := n1.form
      have f2 := n2.form
      have f3 := n3.form
      rw [List.length_map] at f1 f2 f3
      obtain ⟨Ak2, ck2, rfl⟩ := f1
      obtain ⟨Av2, cv2, rfl⟩ := f2
      obtain ⟨Ab2, cb2, rfl⟩ := f3
      have H2 := Lib.hid (And.intro n1 (And.intro n2 (And.intro n3 b2')))
      have HB1 := Lib.hid (both_calls _ _ _ _ w2 (HI.out.k.below b2') n1 (by rw [List.length_map, List.length_map]; omega))
      clear n1 n2 n3 b2' HCa
      go_wp2_with fail
      refine HB1.out.mono ?_
      rintro e' w3 ⟨kv3, rfl, o3, b3⟩
      have H3 := Lib.hid (And.intro o3 (H2.out.2.2.2.trans (b3.mono H2.out.2.2.2.size)))
      have HB2 := Lib.hid (both_calls _ _ _ _ w3 (HI.out.v.below H3.out.2) (H2.out.2.1.below b3) (by rw [List.length_map, List.length_map]; omega))
      have HN3 := Lib.hid (H2.out.2.2.1.below b3)
      clear o3 b3 HB1
      go_wp2_with fail
      refine HB2.out.mono ?_
      rintro e' w4 ⟨vv4, rfl, o4, b4⟩
      have H4 := Lib.hid (And.intro (H3.out.1.below b4) (And.intro o4 (H3.out.2.trans (b4.mono H3.out.2.size))))
      have HN4 := Lib.hid (HN3.out.below b4)
      have HO4 := Lib.hid (kd_below H4.out.2.2 HI.out.b)
      have hs4 := H4.out.2.2.size
      have hs4w : w.heap.size ≤ w4.heap.size := by omega
      have HSC := Lib.hid (And.intro HN4.out.sl HN4.out.hnone)
      clear o4 b4 HB2
      go_wp2_with (at_builtin; refine wpList_append_C bool1_len _ rfl (.tmp 103) (.tmp 104) 36 rfl w.heap.size 4 j0 _ 1 Try.underlying36 hj0 hy0 hy1 hy2 rfl (by omega) _ (flK ks k).length _ rfl HO4.out _ (G.map fun e => e.2.2) rfl HSC.out.1 HSC.out.2 (by intro a; simp [bool1, Value.oneCell']) (by unfold maxLen; rw [List.length_map]; omega) (by rw [List.length_map]; omega) (by omega) ?_; intro v5 w5 o5 g5)
      have K5 : KeepI w4 w5 := fun b cur hb => kd_grown hb HO4.out g5 (by decide)
      have HN5 := Lib.hid (show HdI w (flK ks (k + 1)) kv3 vv4 v5 w5 by
        rw [HFS.out]
        refine ⟨?_, ?_, ?_, ?_⟩
        · rw [List.map_append]; exact H4.out.1.keep K5
        · rw [List.map_append]; exact H4.out.2.1.keep K5
        · rw [List.length_append, List.map_append, List.map_append]
          rw [List.length_map, bool1_flat] at o5
          exact o5
        · exact (HI.out.bel.trans (H4.out.2.2.mono hsz)).grown g5 hs4w (fun g hg => (HO4.out.lt g hg).1))
      clear o5 g5 K5 hs4 hs4w
      go_wp2_with fail
      exact ⟨⟨k + 1, by omega, by go_num, HN5⟩, by simp [intOf]; omega⟩
    · have : k = ks.length := by omega
      subst this
      have e1 : flK ks ks.length = flatN (Bt.flat h) ks := by unfold flK; rw [List.take_length]
      rw [e1] at HI ⊢
      go_wp2_with fail
      (try simp only [Exit.inBlock, Exit.then])
      refine bodyPost_ret (results_tmp4 rfl _ _ _) rfl ?_
      exact ⟨_, _, _, rfl, HI.out.k, HI.out.v, own_NB (by simp) HI.out.b, HI.out.bel⟩
theorem held_calls {r : Int → Int} (ns : List KnD) (hn : ns.length ≤ 5000000000) (nv kv : Value) : ∀ h : Nat, HdOk r ns nv kv h := by
  intro h
  induction h with
  | zero => intro t p w hw hs hr hk hl; exact held_zero ns hn nv kv w hr hk t p hs
  | succ h ih => intro t p w hw hs hr hk hl; exact held_succ ns hn nv kv h ih t p w hw hs hr hk hl
end Go.Proofs.Ytjbelfbfhcmgeaa.Kp
