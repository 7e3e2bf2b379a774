/- B-trees as data: zzShape, the walk. -/
import Derived.Test.YtjbelfbfhcmgeaaBsZ
import Derived.Deep.RegionLaw
import Derived.Deep.AppendLies
import Derived.Deep.Cut
namespace Go.Proofs.Ytjbelfbfhcmgeaa.Kp
open Go.RowKit Om Bt

theorem Try.infoBool : (Try.prog.info? 4).map (fun i => (i.zero, i.size, i.bytes)) = some (some (.bool false), 1, 1) := by kernel_rfl
theorem Try.infoZn : (Try.prog.info? 68).map (fun i => (i.zero, i.size, i.bytes)) = some (some (.agg #[.bool false, .slice none 0 0, .slice none 0 0, .slice none 0 0]), 4, 80) := by kernel_rfl
def ZZPost (w : World) (B : Nat) (l : List KnD) (e : Ending) (w' : World) : Prop := ∃ v' cs', e = .returned v' ∧ w'.ownsRow B 68 4 v' l.length cs' ∧ ZS w' l cs' ∧ Below B w w' ∧ KeepI w w' ∧ KeepT 4 w w'
def ZZOk (B h : Nat) : Prop := ∀ (t : BN h) (l0 : List KnD) (cs0 : List Value) (v : Value) (w : World), BN.In w h t → (∀ i ∈ BN.ids h t, i < B) → B ≤ w.heap.size → w.ownsRow B 68 4 v l0.length cs0 → ZS w l0 cs0 → l0.length + (shapeE h (BN.er h t)).length ≤ 100000000000 →
    Calls Try.prog 47 #[.pointer (some ⟨BN.id h t, 0, none⟩), .int .i64 (h : Nat), v] w (ZZPost w B (l0 ++ shapeE h (BN.er h t)))
theorem ZZOk.at_ {B h : Nat} (H : ZZOk B h) (t : BN h) (l0 : List KnD) (cs0 : List Value) (v : Value) (w : World) (h1 : BN.In w h t) (h2 : ∀ i ∈ BN.ids h t, i < B) (h3 : B ≤ w.heap.size) (h4 : w.ownsRow B 68 4 v l0.length cs0) (h5 : ZS w l0 cs0) (h6 : l0.length + (shapeE h (BN.er h t)).length ≤ 100000000000) :
    Calls Try.prog 47 #[.pointer (some ⟨BN.id h t, 0, none⟩), .int .i64 (h : Nat), v] w (ZZPost w B (l0 ++ shapeE h (BN.er h t))) := H t l0 cs0 v w h1 h2 h3 h4 h5 h6
/-- the nodes of the first parts. -/
def shapeL {h : Nat} (k0 : List (Int × BN h)) (j : Nat) : List KnD := (k0.take j).flatMap fun e => shapeE h (BN.er h e.2)
theorem shapeL_succ {h : Nat} {k0 : List (Int × BN h)} {j : Nat} {e : Int × BN h} (he : k0[j]? = some e) : shapeL k0 (j + 1) = shapeL k0 j ++ shapeE h (BN.er h e.2) := by
  unfold shapeL; rw [List.take_add_one, he]; simp
theorem shape_all {h : Nat} (b0 : Nat) (k0 : List (Int × BN h)) : shapeE (h + 1) (BN.er (h + 1) (b0, k0)) = ⟨false, k0.map Prod.fst, [], []⟩ :: shapeL k0 k0.length := by
  unfold shapeL; rw [List.take_length]
  show KnD.mk false ((k0.map _).map Prod.fst) [] [] :: List.flatMap _ (k0.map _) = _
  rw [List.flatMap_map, List.map_map]; rfl
theorem shapeL_rest {h : Nat} (k0 : List (Int × BN h)) (j : Nat) : ∃ R, shapeL k0 k0.length = shapeL k0 j ++ R := by
  unfold shapeL; rw [List.take_length]
  exact ⟨(k0.drop j).flatMap fun e => shapeE h (BN.er h e.2), by rw [← List.flatMap_append, List.take_append_drop]⟩
theorem take_s {α : Type} {l : List α} {k : Nat} {e : α} (h : l[k]? = some e) : l.take (k + 1) = l.take k ++ [e] := by
  rw [List.take_add_one, h]; rfl
structure ZM (w : World) (B : Nat) (l : List KnD) (v : Value) (cs : List Value) (wx : World) : Prop where
  own : wx.ownsRow B 68 4 v l.length cs
  z : ZS wx l cs
  bel : Below B w wx
  ki : KeepI w wx
  kb : KeepT 4 w wx
theorem zz_push {w wr w' : World} {B zb : Nat} {leaf : Bool} {ks vs : List Int} {bs : List Bool} {ka va ba vl v' : Value} {l0 : List KnD} {cs0 : List Value} {o : Obj} (hZ : ZI w zb leaf ks vs bs ka va ba wr) (hB : B ≤ w.heap.size) (hop : wr.ownsRow B 68 4 vl l0.length cs0) (hz : ZS w l0 cs0)
    (ho : w'.ownsRow B 68 4 v' (l0.length + 1) (cs0 ++ [.bool leaf, ka, va, ba])) (hg : (wr.alloc o).grownBy w' vl.ownBlock) : ZM w B (l0 ++ [⟨leaf, ks, vs, bs⟩]) v' (cs0 ++ [.bool leaf, ka, va, ba]) w' := by
  have k1 : KeepI wr w' := KeepI.trans (KeepI.below ((Below.refl _ wr).alloc (Nat.le_refl _) o)) (fun b cur hb => kd_grown hb (hop.alloc o) hg (by decide))
  have k2 : KeepT 4 wr w' := (KeepT.below ((Below.refl _ wr).alloc (Nat.le_refl _) o)).trans (fun b cur hb => kd_grown hb (hop.alloc o) hg (by decide))
  refine ⟨by rw [List.length_append]; exact ho, ZS.snoc ((own_NS rfl hZ.k).keep k1) ((own_NS rfl hZ.v).keep k1) ((own_NB rfl hZ.b).keep k2) (hz.keep ((KeepI.below hZ.bel).trans k1) ((KeepT.below hZ.bel).trans k2)), ?_, (KeepI.below hZ.bel).trans k1, (KeepT.below hZ.bel).trans k2⟩
  have hw := hZ.bel.size
  exact ((hZ.bel.mono hB).alloc (Nat.le_trans hB hw) o).grown hg (by simp; omega) (fun g hg => (hop.lt g hg).1)
set_option maxRecDepth 100000 in
set_option maxHeartbeats 3200000 in
theorem zz_zero (B b0 : Nat) (rows : List Ent) (l0 : List KnD) (cs0 : List Value) (v : Value) (w : World) (hn : ND w b0 rows) (hb : b0 < B) (hB : B ≤ w.heap.size) (ho : w.ownsRow B 68 4 v l0.length cs0) (hz : ZS w l0 cs0) (hl : l0.length + 1 ≤ 100000000000) :
    Calls Try.prog 47 #[.pointer (some ⟨b0, 0, none⟩), .int .i64 0, v] w (ZZPost w B (l0 ++ [leafD (rows.map entL)])) := by
  rw [show leafD (rows.map entL) = ⟨true, rows.map Ent.key, rows.map Ent.val, rows.map Ent.valid⟩ by unfold leafD; simp only [List.map_map]; rfl]
  obtain ⟨j0, hj0, hja, hjb, hjc⟩ := info_parts Try.info3
  obtain ⟨m0, hm0, hma, hmb, hmc⟩ := info_parts Try.infoBool
  obtain ⟨i0, hi0, hia, hib, hic⟩ := info_parts Try.infoZn
  have HN := Lib.hid (And.intro hn (And.intro hb hB))
  have HO := Lib.hid (And.intro ho hz)
  have hl64 := hn.len
  obtain ⟨Al, cl, rfl⟩ := kd_form ho
  have z0 : ZI w w.heap.size true [] [] [] (.slice none 0 0) (.slice none 0 0) (.slice none 0 0) (w.alloc (Obj.cells #[.bool true, .slice none 0 0, .slice none 0 0, .slice none 0 0] 68)) :=
    ⟨Blk.new _ _ _, World.ownsRow_nil _ _ _ _, World.ownsRow_nil _ _ _ _, World.ownsRow_nil _ _ _ _, .inl rfl, (Below.refl _ w).alloc (Nat.le_refl _) _, Nat.le_refl _⟩
  have H0 := Lib.hid z0
  clear hn hb ho hz z0
  go_enter Try.func47, Try.ntmps47
  go_wp2_with fail
  go_loopw [8] (fun i wx => ∃ j : Nat, j ≤ rows.length ∧ i = .int .i64 (j : Nat) ∧ Hid (∃ ka va ba, ZI w w.heap.size true ((rows.take j).map Ent.key) ((rows.take j).map Ent.val) ((rows.take j).map Ent.valid) ka va ba wx)) (fun i _ => rows.length - (intOf i).toNat)
  case atStart => exact ⟨0, Nat.zero_le _, rfl, Lib.hid ⟨_, _, _, H0.out⟩⟩
  case round =>
    obtain ⟨j, hj, rfl, HZ⟩ := hrel
    have cm : wr.cell? ⟨b0, 0, none⟩ = some (.int .i64 (rows.length : Nat)) := by
      obtain ⟨ka, va, ba, hZ⟩ := HZ.out
      exact (HN.out.1.below hZ.bel (Nat.lt_of_lt_of_le HN.out.2.1 HN.out.2.2)).m
    by_cases hlt : j < rows.length
    · obtain ⟨en, he⟩ : ∃ e, rows[j]? = some e := ⟨_, List.getElem?_eq_getElem hlt⟩
      have HT := Lib.hid (take_s he)
      have HE := Lib.hid he
      obtain ⟨key, val, valid, next⟩ := en
      have hKl : ((rows.take j).map Ent.key).length ≤ 64 ∧ ((rows.take j).map Ent.val).length ≤ 64 ∧ ((rows.take j).map Ent.valid).length ≤ 64 := by
        simp only [List.length_map, List.length_take]; omega
      have p0 : (0 : Int) ≤ (j : Int) := by omega
      have p1 : (j : Int) < (64 : Int) := by omega
      have p2 : j < 64 := by omega
      obtain ⟨K, hK⟩ : ∃ K, K = (rows.take j).map Ent.key := ⟨_, rfl⟩
      obtain ⟨V, hV⟩ : ∃ K, K = (rows.take j).map Ent.val := ⟨_, rfl⟩
      obtain ⟨Bs, hBs⟩ : ∃ K, K = (rows.take j).map Ent.valid := ⟨_, rfl⟩
      have HKV := Lib.hid (show (rows.take (j + 1)).map Ent.key = K ++ [key] ∧ (rows.take (j + 1)).map Ent.val = V ++ [val] ∧ (rows.take (j + 1)).map Ent.valid = Bs ++ [valid] by
        rw [HT.out, hK, hV, hBs, List.map_append, List.map_append, List.map_append]; exact ⟨rfl, rfl, rfl⟩)
      rw [← hK, ← hV, ← hBs] at HZ hKl
      obtain ⟨hk1, hk2, hk3⟩ := hKl
      clear he hK hV hBs HT
      go_upto_region 5 with (fail)
      go_cut [] (fun wx => Hid (∃ ka va ba, ZI w w.heap.size true (K ++ [key]) V Bs ka va ba wx))
      case first =>
        obtain ⟨ka, va, ba, hZ⟩ := HZ.out
        obtain ⟨Ax, cx, hx⟩ := kd_form hZ.k
        subst hx
        have c1 : wr.cell? ⟨w.heap.size, 1, none⟩ = some (.slice Ax K.length cx) := hZ.blk.cell 1
        have zl := hZ.blk.lt
        have bl : b0 < wr.heap.size := Nat.lt_of_lt_of_le (Nat.lt_of_lt_of_le HN.out.2.1 HN.out.2.2) hZ.bel.size
        obtain ⟨n0, n1, n2, n3⟩ := (HN.out.1.below hZ.bel (Nat.lt_of_lt_of_le HN.out.2.1 HN.out.2.2)).row HE.out
        simp only at n0 n1 n2 n3
        have pz := hZ.alloc (Obj.cells #[.int .i64 key] 3)
        have ple : w.heap.size ≤ ((wr.alloc (Obj.cells #[.int .i64 key] 3)).drew).heap.size := pz.bel.size
        have HZF := Lib.hid pz
        have po := pz.k
        clear pz HZ
        go_region_law
          (refine step_append_lies _ rfl (.tmp 22) (.tmp 30) 22 rfl w.heap.size 3 j0 _ 1 8 Try.underlying22 hj0 hja hjb hjc rfl (by omega) (.slice Ax K.length cx) K.length (K.map i64v) (by rfl) (by with_reducible exact po) _ 1 1 [.int .i64 key] (by rfl) (by rfl) (news_blk (Blk.new wr _ _)) (by simp [Value.oneCell']) (by omega) (by unfold maxLen; omega) (by omega) (by with_reducible exact ple) _ (by rfl) ?_; intro gg cap w1 ho1 hg1 hat1 hlt1
           have hz1 := kd_grown HZF.out.blk HZF.out.k hg1 (by decide)
           have d1 : w1.cell? ⟨w.heap.size, 1, none⟩ = some (.slice Ax K.length cx) := hz1.cell 1
           have df := hz1.frozen
           have zl1 := hz1.lt
           clear hz1)
        all_goals
          go_wp2_with fail
          go_meet
          exact Lib.hid ⟨_, _, _, HZF.out.key ho1 hg1 hat1⟩
      case rest =>
        replace HZ := hcut
        clear hcut cm
        obtain ⟨w5, hw5⟩ : ∃ x, x = wc := ⟨_, rfl⟩
        subst hw5
        go_upto_region 7 with (fail)
        go_cut [] (fun wx => Hid (∃ ka va ba, ZI w w.heap.size true (K ++ [key]) (V ++ [val]) Bs ka va ba wx))
        case first =>
          obtain ⟨ka, va, ba, hZ⟩ := HZ.out
          obtain ⟨Ax, cx, hx⟩ := kd_form hZ.v
          subst hx
          have c1 : w5.cell? ⟨w.heap.size, 2, none⟩ = some (.slice Ax V.length cx) := hZ.blk.cell 2
          have zl := hZ.blk.lt
          have bl : b0 < w5.heap.size := Nat.lt_of_lt_of_le (Nat.lt_of_lt_of_le HN.out.2.1 HN.out.2.2) hZ.bel.size
          obtain ⟨n0, n1, n2, n3⟩ := (HN.out.1.below hZ.bel (Nat.lt_of_lt_of_le HN.out.2.1 HN.out.2.2)).row HE.out
          simp only at n0 n1 n2 n3
          have pz := hZ.alloc (Obj.cells #[.int .i64 val] 3)
          have ple : w.heap.size ≤ ((w5.alloc (Obj.cells #[.int .i64 val] 3)).drew).heap.size := pz.bel.size
          have HZF := Lib.hid pz
          have po := pz.v
          clear pz HZ
          go_region_law
            (refine step_append_lies _ rfl (.tmp 36) (.tmp 44) 22 rfl w.heap.size 3 j0 _ 1 8 Try.underlying22 hj0 hja hjb hjc rfl (by omega) (.slice Ax V.length cx) V.length (V.map i64v) (by rfl) (by with_reducible exact po) _ 1 1 [.int .i64 val] (by rfl) (by rfl) (news_blk (Blk.new w5 _ _)) (by simp [Value.oneCell']) (by omega) (by unfold maxLen; omega) (by omega) (by with_reducible exact ple) _ (by rfl) ?_; intro gg cap w1 ho1 hg1 hat1 hlt1
             have hz1 := kd_grown HZF.out.blk HZF.out.v hg1 (by decide)
             have d1 : w1.cell? ⟨w.heap.size, 2, none⟩ = some (.slice Ax V.length cx) := hz1.cell 2
             have df := hz1.frozen
             have zl1 := hz1.lt
             clear hz1)
          all_goals
            go_wp2_with fail
            go_meet
            exact Lib.hid ⟨_, _, _, HZF.out.val ho1 hg1 hat1⟩
        case rest =>
          replace HZ := hcut
          clear hcut
          obtain ⟨w6, hw6⟩ : ∃ x, x = wc := ⟨_, rfl⟩
          subst hw6
          go_upto_region 8 with (fail)
          obtain ⟨ka, va, ba, hZ⟩ := HZ.out
          obtain ⟨Ax, cx, hx⟩ := kd_form hZ.b
          subst hx
          have c1 : w6.cell? ⟨w.heap.size, 3, none⟩ = some (.slice Ax Bs.length cx) := hZ.blk.cell 3
          have zl := hZ.blk.lt
          have bl : b0 < w6.heap.size := Nat.lt_of_lt_of_le (Nat.lt_of_lt_of_le HN.out.2.1 HN.out.2.2) hZ.bel.size
          obtain ⟨n0, n1, n2, n3⟩ := (HN.out.1.below hZ.bel (Nat.lt_of_lt_of_le HN.out.2.1 HN.out.2.2)).row HE.out
          simp only at n0 n1 n2 n3
          have pz := hZ.alloc (Obj.cells #[.bool valid] 4)
          have ple : w.heap.size ≤ ((w6.alloc (Obj.cells #[.bool valid] 4)).drew).heap.size := pz.bel.size
          have HZF := Lib.hid pz
          have po := pz.b
          clear pz HZ
          go_region_law
            (refine step_append_lies _ rfl (.tmp 48) (.tmp 56) 36 rfl w.heap.size 4 m0 _ 1 1 Try.underlying36 hm0 hma hmb hmc rfl (by omega) (.slice Ax Bs.length cx) Bs.length (Bs.map boolv) (by rfl) (by with_reducible exact po) _ 1 1 [.bool valid] (by rfl) (by rfl) (news_blk (Blk.new w6 _ _)) (by simp [Value.oneCell']) (by omega) (by unfold maxLen; omega) (by omega) (by with_reducible exact ple) _ (by rfl) ?_; intro gg cap w1 ho1 hg1 hat1 hlt1
             have hz1 := kd_grown HZF.out.blk HZF.out.b hg1 (by decide)
             have d1 : w1.cell? ⟨w.heap.size, 3, none⟩ = some (.slice Ax Bs.length cx) := hz1.cell 3
             have df := hz1.frozen
             have zl1 := hz1.lt
             clear hz1)
          all_goals
            go_wp2_with fail
            refine ⟨⟨j + 1, by omega, by go_num, ?_⟩, by simp [intOf]; omega⟩
            rw [HKV.out.1, HKV.out.2.1, HKV.out.2.2]
            exact Lib.hid ⟨_, _, _, HZF.out.bool ho1 hg1⟩
    · have : j = rows.length := by omega
      subst this
      obtain ⟨ka, va, ba, hZ⟩ := HZ.out
      rw [List.take_length] at hZ
      obtain ⟨Ak, ck, rfl⟩ := kd_form hZ.k
      obtain ⟨Av, cv, rfl⟩ := kd_form hZ.v
      obtain ⟨Ab, cb, rfl⟩ := kd_form hZ.b
      have z0 := hZ.blk.cell 0
      have z1 := hZ.blk.cell 1
      have z2 := hZ.blk.cell 2
      have z3 := hZ.blk.cell 3
      simp only [List.getElem?_toArray, List.getElem?_cons_succ, List.getElem?_cons_zero, List.length_map, List.length_nil] at z0 z1 z2 z3
      have zl := hZ.blk.lt
      have bl : b0 < wr.heap.size := Nat.lt_of_lt_of_le (Nat.lt_of_lt_of_le HN.out.2.1 HN.out.2.2) hZ.bel.size
      have HZ2 := Lib.hid hZ
      have hop := Lib.hid (kd_below hZ.bel HO.out.1)
      have hws := hZ.bel.size
      clear HZ hZ
      go_wp2_with (at_builtin; refine wpList_append_own _ rfl (.tmp 59) (.tmp 61) 66 rfl B 68 i0 _ 4 80 Try.underlying66 hi0 hia hib hic rfl (by omega) (.slice Al l0.length cl) l0.length cs0 rfl (hop.out.alloc _) ⟨wr.heap.size, 0, none⟩ 1 1 [.bool true, .slice Ak rows.length ck, .slice Av rows.length cv, .slice Ab rows.length cb] rfl rfl (news_blk (Blk.new wr _ _)) (by simp [Value.oneCell']) (by unfold maxLen; omega) (by omega) (by simp; omega) ?_)
      intro v' w' hown' hgrow _
      have hm := zz_push HZ2.out HN.out.2.2 hop.out HO.out.2 (by simpa using hown') hgrow
      have HM := Lib.hid hm
      clear cm hm hown' hgrow z0 z1 z2 z3 zl bl hop hws
      have cm : w'.cell? ⟨b0, 0, none⟩ = some (.int .i64 (rows.length : Nat)) := (HN.out.1.below HM.out.bel HN.out.2.1).m
      go_wp2_with fail
      go_loopw [2, 9] (fun v i wx => v = v' ∧ i = .int .i64 0 ∧ wx = w') (fun _ _ _ => 0)
      case atStart => exact ⟨rfl, rfl, rfl⟩
      case round =>
        obtain ⟨rfl, rfl, hw⟩ := hrel
        rw [← hw] at cm HM
        clear hw
        by_cases h0 : 0 < rows.length
        · have e0 : decide ((0 : Int) < (rows.length : Int)) = true := decide_eq_true (by omega)
          go_wp2_with fail
          go_ret
          exact ⟨_, _, rfl, by simpa using HM.out.own, HM.out.z, HM.out.bel, HM.out.ki, HM.out.kb⟩
        · have e0 : decide ((0 : Int) < (rows.length : Int)) = false := decide_eq_false (by omega)
          go_wp2_with fail
          go_ret
          exact ⟨_, _, rfl, by simpa using HM.out.own, HM.out.z, HM.out.bel, HM.out.ki, HM.out.kb⟩
set_option maxRecDepth 100000 in
set_option maxHeartbeats 3200000 in
theorem zz_succ (B h : Nat) (ih : ZZOk B h) (hh : h ≤ 1000000000000) (b0 : Nat) (k0 : List (Int × BN h)) (l0 : List KnD) (cs0 : List Value) (v : Value) (w : World) (hin : InnerIn w (BN.id h) (BN.In w h) (b0, k0)) (hb : ∀ i ∈ BN.ids (h + 1) (b0, k0), i < B) (hB : B ≤ w.heap.size) (ho : w.ownsRow B 68 4 v l0.length cs0) (hz : ZS w l0 cs0) (hl : l0.length + (shapeE (h + 1) (BN.er (h + 1) (b0, k0))).length ≤ 100000000000) :
    Calls Try.prog 47 #[.pointer (some ⟨b0, 0, none⟩), .int .i64 ((h : Int) + 1), v] w (ZZPost w B (l0 ++ shapeE (h + 1) (BN.er (h + 1) (b0, k0)))) := by
  obtain ⟨⟨rows, hn, hrows⟩, hkids⟩ := hin
  simp only at hn hrows hkids
  obtain ⟨j0, hj0, hja, hjb, hjc⟩ := info_parts Try.info3
  obtain ⟨i0, hi0, hia, hib, hic⟩ := info_parts Try.infoZn
  have hlen : k0.length = rows.length := by have := congrArg List.length hrows; simpa using this.symm
  have hkeys : rows.map Ent.key = k0.map Prod.fst := by
    have := congrArg (List.map Prod.fst) hrows
    simp only [List.map_map] at this ⊢
    exact this
  have hb0 := hb b0 (List.mem_cons_self ..)
  have HN := Lib.hid (And.intro hn (And.intro hb0 hB))
  have HO := Lib.hid (And.intro ho hz)
  have hl64 := hn.len
  have HKID := Lib.hid (And.intro hkids hb)
  have HR := Lib.hid (And.intro hrows (And.intro hlen hkeys))
  have IH := Lib.hid ih
  have HS := Lib.hid hl
  have hl0 : l0.length + 1 ≤ 100000000000 := by
    have : (shapeE (h + 1) (BN.er (h + 1) (b0, k0))).length = ((k0.map fun e => (e.1, BN.er h e.2)).flatMap (fun e => shapeE h e.2)).length + 1 := rfl
    omega
  have hz1 : ((h : Int) + 1 == 0) = false := by rw [beq_eq_false_iff_ne]; omega
  have hz2 : decide (0 < (h : Int) + 1) = true := decide_eq_true (by omega)
  have hhw : IntKind.i64.wrap (h : Int) = (h : Int) := IntWalk.i64_in _ (by omega)
  obtain ⟨Al, cl, rfl⟩ := kd_form ho
  have z0 : ZI w w.heap.size false [] [] [] (.slice none 0 0) (.slice none 0 0) (.slice none 0 0) (w.alloc (Obj.cells #[.bool false, .slice none 0 0, .slice none 0 0, .slice none 0 0] 68)) :=
    ⟨Blk.new _ _ _, World.ownsRow_nil _ _ _ _, World.ownsRow_nil _ _ _ _, World.ownsRow_nil _ _ _ _, .inl rfl, (Below.refl _ w).alloc (Nat.le_refl _) _, Nat.le_refl _⟩
  have H0 := Lib.hid z0
  clear hn hb hb0 ho hz z0 hkids hrows hlen hkeys ih hl
  go_enter Try.func47, Try.ntmps47
  go_wp2_with fail
  go_loopw [8] (fun i wx => ∃ j : Nat, j ≤ rows.length ∧ i = .int .i64 (j : Nat) ∧ Hid (∃ ka va ba, ZI w w.heap.size false ((rows.take j).map Ent.key) [] [] ka va ba wx)) (fun i _ => rows.length - (intOf i).toNat)
  case atStart => exact ⟨0, Nat.zero_le _, rfl, Lib.hid ⟨_, _, _, H0.out⟩⟩
  case round =>
    obtain ⟨j, hj, rfl, HZ⟩ := hrel
    have cm : wr.cell? ⟨b0, 0, none⟩ = some (.int .i64 (rows.length : Nat)) := by
      obtain ⟨ka, va, ba, hZ⟩ := HZ.out
      exact (HN.out.1.below hZ.bel (Nat.lt_of_lt_of_le HN.out.2.1 HN.out.2.2)).m
    by_cases hlt : j < rows.length
    · obtain ⟨en, he⟩ : ∃ e, rows[j]? = some e := ⟨_, List.getElem?_eq_getElem hlt⟩
      have HT := Lib.hid (take_s he)
      have HE := Lib.hid he
      obtain ⟨key, val, valid, next⟩ := en
      have hk1 : ((rows.take j).map Ent.key).length ≤ 64 := by
        simp only [List.length_map, List.length_take]; omega
      have p0 : (0 : Int) ≤ (j : Int) := by omega
      have p1 : (j : Int) < (64 : Int) := by omega
      have p2 : j < 64 := by omega
      obtain ⟨K, hK⟩ : ∃ K, K = (rows.take j).map Ent.key := ⟨_, rfl⟩
      have HKV := Lib.hid (show (rows.take (j + 1)).map Ent.key = K ++ [key] by
        rw [HT.out, hK, List.map_append]; rfl)
      rw [← hK] at HZ hk1
      clear he hK HT
      go_upto_region 5 with (fail)
      go_cut [] (fun wx => Hid (∃ ka va ba, ZI w w.heap.size false (K ++ [key]) [] [] ka va ba wx))
      case first =>
        obtain ⟨ka, va, ba, hZ⟩ := HZ.out
        obtain ⟨Ax, cx, hx⟩ := kd_form hZ.k
        subst hx
        have c1 : wr.cell? ⟨w.heap.size, 1, none⟩ = some (.slice Ax K.length cx) := hZ.blk.cell 1
        have zl := hZ.blk.lt
        have bl : b0 < wr.heap.size := Nat.lt_of_lt_of_le (Nat.lt_of_lt_of_le HN.out.2.1 HN.out.2.2) hZ.bel.size
        obtain ⟨n0, n1, n2, n3⟩ := (HN.out.1.below hZ.bel (Nat.lt_of_lt_of_le HN.out.2.1 HN.out.2.2)).row HE.out
        simp only at n0 n1 n2 n3
        have pz := hZ.alloc (Obj.cells #[.int .i64 key] 3)
        have ple : w.heap.size ≤ ((wr.alloc (Obj.cells #[.int .i64 key] 3)).drew).heap.size := pz.bel.size
        have HZF := Lib.hid pz
        have po := pz.k
        clear pz HZ
        go_region_law
          (refine step_append_lies _ rfl (.tmp 22) (.tmp 30) 22 rfl w.heap.size 3 j0 _ 1 8 Try.underlying22 hj0 hja hjb hjc rfl (by omega) (.slice Ax K.length cx) K.length (K.map i64v) (by rfl) (by with_reducible exact po) _ 1 1 [.int .i64 key] (by rfl) (by rfl) (news_blk (Blk.new wr _ _)) (by simp [Value.oneCell']) (by omega) (by unfold maxLen; omega) (by omega) (by with_reducible exact ple) _ (by rfl) ?_; intro gg cap w1 ho1 hg1 hat1 hlt1
           have hz1 := kd_grown HZF.out.blk HZF.out.k hg1 (by decide)
           have d1 : w1.cell? ⟨w.heap.size, 1, none⟩ = some (.slice Ax K.length cx) := hz1.cell 1
           have df := hz1.frozen
           have zl1 := hz1.lt
           clear hz1)
        all_goals
          go_wp2_with fail
          go_meet
          exact Lib.hid ⟨_, _, _, HZF.out.key ho1 hg1 hat1⟩
      case rest =>
        have HZ3 := Lib.hid hcut.out
        clear hcut cm HZ
        go_wp2_with fail
        refine ⟨⟨j + 1, by omega, by go_num, ?_⟩, by simp [intOf]; omega⟩
        rw [HKV.out]
        exact HZ3
    · have : j = rows.length := by omega
      subst this
      obtain ⟨ka, va, ba, hZ⟩ := HZ.out
      rw [List.take_length] at hZ
      obtain ⟨Ak, ck, rfl⟩ := kd_form hZ.k
      obtain ⟨Av, cv, rfl⟩ := kd_form hZ.v
      obtain ⟨Ab, cb, rfl⟩ := kd_form hZ.b
      have z0 := hZ.blk.cell 0
      have z1 := hZ.blk.cell 1
      have z2 := hZ.blk.cell 2
      have z3 := hZ.blk.cell 3
      simp only [List.getElem?_toArray, List.getElem?_cons_succ, List.getElem?_cons_zero, List.length_map, List.length_nil] at z0 z1 z2 z3
      have zl := hZ.blk.lt
      have bl : b0 < wr.heap.size := Nat.lt_of_lt_of_le (Nat.lt_of_lt_of_le HN.out.2.1 HN.out.2.2) hZ.bel.size
      have HZ2 := Lib.hid hZ
      have hop := Lib.hid (kd_below hZ.bel HO.out.1)
      have hws := hZ.bel.size
      clear HZ hZ
      go_wp2_with (at_builtin; refine wpList_append_own _ rfl (.tmp 59) (.tmp 61) 66 rfl B 68 i0 _ 4 80 Try.underlying66 hi0 hia hib hic rfl (by omega) (.slice Al l0.length cl) l0.length cs0 rfl (hop.out.alloc _) ⟨wr.heap.size, 0, none⟩ 1 1 [.bool false, .slice Ak rows.length ck, .slice Av 0 cv, .slice Ab 0 cb] rfl rfl (news_blk (Blk.new wr _ _)) (by simp [Value.oneCell']) (by unfold maxLen; omega) (by omega) (by simp; omega) ?_)
      intro v' w' hown' hgrow _
      have hm := zz_push HZ2.out HN.out.2.2 hop.out HO.out.2 (by simpa using hown') hgrow
      have HM := Lib.hid hm
      clear cm hm hown' hgrow z0 z1 z2 z3 zl bl hop hws
      have hsl : ∀ j : Nat, (shapeL k0 j).length + l0.length + 1 ≤ 100000000000 := fun j => by
        have h1 : (shapeE (h + 1) (BN.er (h + 1) (b0, k0))).length = (shapeL k0 k0.length).length + 1 := by rw [shape_all]; rfl
        obtain ⟨R, hR⟩ := shapeL_rest k0 j
        rw [hR, List.length_append] at h1
        have := HS.out
        omega
      have HSL := Lib.hid hsl
      rw [HR.out.2.2] at HM
      clear hsl HZ2
      go_wp2_with fail
      go_loopw [2, 9] (fun v i wx => ∃ j : Nat, j ≤ k0.length ∧ i = .int .i64 (j : Nat) ∧ Hid (∃ cs, ZM w B (l0 ++ (⟨false, k0.map Prod.fst, [], []⟩ :: shapeL k0 j)) v cs wx)) (fun _ i _ => k0.length - (intOf i).toNat)
      case atStart => exact ⟨0, Nat.zero_le _, rfl, Lib.hid ⟨_, HM.out⟩⟩
      case round =>
        obtain ⟨j, hj, rfl, HJ⟩ := hrel
        obtain ⟨cs, hZM⟩ := HJ.out
        have HZM := Lib.hid hZM
        have HNr := Lib.hid (HN.out.1.below hZM.bel HN.out.2.1)
        have cm := HNr.out.m
        have hkl := HR.out.2.1
        clear HJ hZM
        by_cases hlt : j < rows.length
        · have e0 : decide ((j : Int) < (rows.length : Int)) = true := decide_eq_true (by omega)
          obtain ⟨en, he⟩ : ∃ e, rows[j]? = some e := ⟨_, List.getElem?_eq_getElem hlt⟩
          obtain ⟨c0, c1, c2, c3⟩ := HNr.out.row he
          have hkk : j < k0.length := by omega
          have hc : k0[j]? = some (k0[j]'hkk) := List.getElem?_eq_getElem _
          generalize k0[j]'hkk = c at hc
          have hnx : en.next = some ⟨BN.id h c.2, 0, none⟩ := by
            have h1 : (rows.map (fun r => (r.key, r.next)))[j]? = some (en.key, en.next) := by rw [List.getElem?_map, he]; rfl
            rw [HR.out.1, List.getElem?_map, hc] at h1
            simp only [Option.map_some, Option.some.injEq, kidP, Prod.mk.injEq] at h1
            exact h1.2.symm
          rw [hnx] at c3
          have hm : c ∈ k0 := List.mem_of_getElem? hc
          have hcb : ∀ i ∈ BN.ids h c.2, i < B := fun i hi => HKID.out.2 i (List.mem_cons_of_mem _ (List.mem_flatMap.2 ⟨c, hm, hi⟩))
          have hcn : BN.In wr h c.2 := (HKID.out.1 c hm).frB (FrB.of_below (S := []) HZM.out.bel) (fun i hi => ⟨hcb i hi, by simp⟩)
          have hsz := HSL.out (j + 1)
          rw [shapeL_succ hc, List.length_append] at hsz
          have HC := Lib.hid (And.intro hcb (And.intro hcn (And.intro (shapeL_succ hc) (show (l0 ++ (⟨false, k0.map Prod.fst, [], []⟩ :: shapeL k0 j)).length + (shapeE h (BN.er h c.2)).length ≤ 100000000000 by
            simp only [List.length_append, List.length_cons]; omega))))
          have hBw : B ≤ wr.heap.size := Nat.le_trans HN.out.2.2 (by have := HZM.out.bel.size; exact this)
          have HBW := Lib.hid hBw
          have p0 : (0 : Int) ≤ (j : Int) := by omega
          have p1 : (j : Int) < (64 : Int) := by omega
          have p2 : j < 64 := by omega
          clear hnx he hc hm hcb hcn hsz hkk hBw
          go_wp2_with fail
          (with_reducible refine (IH.out.at_ c.2 _ _ _ wr HC.out.2.1 HC.out.1 HBW.out HZM.out.own HZM.out.z HC.out.2.2.2).mono ?_)
          rintro e' w2 ⟨v2, cs2, rfl, o2, z2, b2, ki2, kb2⟩
          have HZ2 := Lib.hid (show ZM w B (l0 ++ (⟨false, k0.map Prod.fst, [], []⟩ :: shapeL k0 (j + 1))) v2 cs2 w2 by
            have e : l0 ++ ((⟨false, k0.map Prod.fst, [], []⟩ : KnD) :: shapeL k0 (j + 1)) = (l0 ++ (⟨false, k0.map Prod.fst, [], []⟩ :: shapeL k0 j)) ++ shapeE h (BN.er h c.2) := by rw [HC.out.2.2.1]; simp
            rw [e]
            exact ⟨o2, z2, HZM.out.bel.trans b2, HZM.out.ki.trans ki2, HZM.out.kb.trans kb2⟩)
          clear o2 z2 b2 ki2 kb2
          go_wp2_with fail
          exact ⟨⟨j + 1, by omega, by go_num, Lib.hid ⟨_, HZ2.out⟩⟩, by simp [intOf]; omega⟩
        · have e0 : decide ((j : Int) < (rows.length : Int)) = false := decide_eq_false (by omega)
          have hjk : j = k0.length := by omega
          have HF := Lib.hid (show ZM w B (l0 ++ shapeE (h + 1) (BN.er (h + 1) (b0, k0))) u2 cs wr by
            rw [shape_all, ← hjk]; exact HZM.out)
          clear hjk
          go_wp2_with fail
          go_ret
          exact ⟨_, cs, rfl, HF.out.own, HF.out.z, HF.out.bel, HF.out.ki, HF.out.kb⟩
theorem zz_calls (B : Nat) : ∀ h : Nat, h ≤ 1000000000000 → ZZOk B h := by
  intro h
  induction h with
  | zero =>
    intro _ t l0 cs0 v w hin hb hB ho hz hl
    obtain ⟨b0, es⟩ : Nat × List LE := t
    obtain ⟨rows, hn, he⟩ : LeafIn w (b0, es) := hin
    have e1 : shapeE 0 (BN.er 0 (b0, es)) = [leafD (rows.map entL)] := by show [leafD es] = _; rw [show rows.map entL = es from he]
    rw [e1] at hl ⊢
    exact zz_zero B b0 rows l0 cs0 v w hn (hb b0 (List.mem_singleton.2 rfl)) hB ho hz hl
  | succ h ih =>
    intro hh t l0 cs0 v w hin hb hB ho hz hl
    obtain ⟨b0, k0⟩ : Nat × List (Int × BN h) := t
    exact zz_succ B h (ih (by omega)) (by omega) b0 k0 l0 cs0 v w hin hb hB ho hz hl
end Go.Proofs.Ytjbelfbfhcmgeaa.Kp
