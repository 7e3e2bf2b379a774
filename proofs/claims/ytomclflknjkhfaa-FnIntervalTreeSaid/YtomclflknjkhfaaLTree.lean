/- laws.FnIntervalTree. -/
import Derived.Test.YtomclflknjkhfaaLOne
import Derived.Test.YtomclflknjkhfaaAvActs
namespace Go.Proofs.Ytomclflknjkhfaa
open Go.RowKit ItP

/-- the steps on an AVL tree that go with those on an interval tree. -/
def actOf (a : MarkD) : List Av.ActD := if a.act = 0 ∨ a.act = 1 then [⟨0, a.lo, 0⟩] else if a.act = 2 then [⟨1, a.lo, 0⟩] else []
def actsOf (l : List MarkD) : List Av.ActD := l.flatMap actOf
theorem actOf_len (a : MarkD) : (actOf a).length ≤ 1 := by unfold actOf; split <;> (try split) <;> simp
theorem actsOf_len : ∀ l : List MarkD, (actsOf l).length ≤ l.length
  | [] => by simp [actsOf]
  | a :: l => by
    have := actsOf_len l
    have := actOf_len a
    unfold actsOf at *
    rw [List.flatMap_cons, List.length_append, List.length_cons]; omega
theorem actsOf_snoc (l : List MarkD) (a : MarkD) : actsOf (l ++ [a]) = actsOf l ++ actOf a := by simp [actsOf]
theorem rank0 (k : Int) : Av.rankOf [] k = k := rfl
theorem ins_keys (s : Sp) (ow : Bool) (v : Int) : ∀ (xs : List Sp) (m : Av.Om.R), xs.map Sp.lo = m.map Prod.fst → (insL s ow xs).map Sp.lo = (Av.Om.putL (Av.rankOf []) s.lo v m).map Prod.fst
  | [], [], _ => rfl
  | [], _ :: _, h => by simp at h
  | _ :: _, [], h => by simp at h
  | x :: xs, y :: m, h => by
    simp only [List.map_cons, List.cons.injEq] at h
    obtain ⟨h1, h2⟩ := h
    have ih := ins_keys s ow v xs m h2
    unfold insL Av.Om.putL
    rw [rank0, rank0]
    by_cases c1 : s.lo < x.lo
    · rw [if_pos c1, if_pos (show s.lo < y.1 by omega)]; simp [h1, h2]
    · rw [if_neg c1, if_neg (show ¬ s.lo < y.1 by omega)]
      by_cases c2 : x.lo < s.lo
      · rw [if_pos c2, if_pos (show y.1 < s.lo by omega), List.map_cons, List.map_cons, ih, h1]
      · rw [if_neg c2, if_neg (show ¬ y.1 < s.lo by omega)]
        have e : s.lo = y.1 := by omega
        cases ow <;> simp [h1, h2, e]
theorem rem_keys (lo : Int) : ∀ (xs : List Sp) (m : Av.Om.R), xs.map Sp.lo = m.map Prod.fst → (remL lo xs).map Sp.lo = (Av.Om.remL (Av.rankOf []) lo m).map Prod.fst
  | [], [], _ => rfl
  | [], _ :: _, h => by simp at h
  | _ :: _, [], h => by simp at h
  | x :: xs, y :: m, h => by
    simp only [List.map_cons, List.cons.injEq] at h
    obtain ⟨h1, h2⟩ := h
    have ih := rem_keys lo xs m h2
    rw [remL_cons, Av.Om.remL_cons, rank0, rank0, ← h1]
    split
    · exact ih
    · simp [h1, ih]
theorem tree_keys : ∀ (l : List MarkD) (t : IT) (m : Av.Om.R), t.Good → t.list.map Sp.lo = m.map Prod.fst → (runI t l).1.list.map Sp.lo = (Av.mapR (Av.rankOf []) (actsOf l) m).map Prod.fst
  | [], _, _, _, h => h
  | a :: l, t, m, hg, h => by
    show (runI (nextI a 0 t) l).1.list.map Sp.lo = _
    have e : Av.mapR (Av.rankOf []) (actsOf (a :: l)) m = Av.mapR (Av.rankOf []) (actsOf l) (Av.mapR (Av.rankOf []) (actOf a) m) := by
      unfold actsOf Av.mapR
      rw [List.flatMap_cons, List.foldl_append]
    rw [e]
    refine tree_keys l _ _ (good_next hg) ?_
    by_cases c0 : a.act = 0
    · have e1 : nextI a 0 t = t.ins a.sp true 0 := by unfold nextI; rw [if_pos c0]
      have e2 : actOf a = [⟨0, a.lo, 0⟩] := by unfold actOf; rw [if_pos (.inl c0)]
      rw [e1, e2, ins_list _ _ _ _ hg.ri]
      exact ins_keys a.sp true 0 _ _ h
    · by_cases c1 : a.act = 1
      · have e1 : nextI a 0 t = t.ins a.sp false 0 := by unfold nextI; rw [if_neg c0, if_pos c1]
        have e2 : actOf a = [⟨0, a.lo, 0⟩] := by unfold actOf; rw [if_pos (.inr c1)]
        rw [e1, e2, ins_list _ _ _ _ hg.ri]
        exact ins_keys a.sp false 0 _ _ h
      · have n01 : ¬ (a.act = 0 ∨ a.act = 1) := fun h => h.elim c0 c1
        by_cases c2 : a.act = 2
        · have e1 : nextI a 0 t = t.rem a.lo := by unfold nextI; rw [if_neg c0, if_neg c1, if_pos c2]
          have e2 : actOf a = [⟨1, a.lo, 0⟩] := by unfold actOf; rw [if_neg n01, if_pos c2]
          rw [e1, e2, rem_list t.sz t _ (Nat.le_refl _) hg.ri]
          exact rem_keys a.lo _ _ h
        · have e1 : nextI a 0 t = t := by unfold nextI; rw [if_neg c0, if_neg c1, if_neg c2]
          have e2 : actOf a = [] := by unfold actOf; rw [if_neg n01, if_neg c2]
          rw [e1, e2]
          exact h
theorem avl_keys (l : List Av.ActD) : (Av.runA [] .nil l).1.keys = (Av.mapR (Av.rankOf []) l []).map Prod.fst := by
  rw [Av.AT.keys_prs, Av.run_prs [] l .nil List.Pairwise.nil]; rfl
theorem last_acts (l : List Av.ActD) : Av.runN [] (l ++ [⟨4, 0, 0⟩]) = Av.runN [] l ++ [⟨0, false, (Av.runA [] .nil l).1.keys, (Av.runA [] .nil l).1.vals⟩] := by
  unfold Av.runN
  rw [Av.runA_snoc]; rfl
theorem tree_same (l : List MarkD) : (Av.runA [] .nil (actsOf l)).1.keys = (runI .nil l).1.list.map Sp.lo := by
  rw [avl_keys]; exact (tree_keys l .nil [] good_nil rfl).symm
/-- the steps on the AVL tree so far: a row of one's own. -/
structure ActRow (B : Nat) (w wr : World) (v : Value) (l : List Av.ActD) : Prop where
  own : wr.ownsRow B 75 3 v l.length (Av.actCells l)
  below : Below B w wr
set_option maxRecDepth 100000 in
set_option maxHeartbeats 12800000 in
theorem intervalTree_calls (lv : Value) (l : List MarkD) (w : World) (hl : SlC 4 markCell w w.heap.size lv l) (hln : ∀ n c, lv = .slice none n c → n = 0 ∧ c = 0) :
    Calls Try.prog 13 #[lv] w fun e w' => e = .returned (.bool true) ∧ Below w.heap.size w w' := by
  obtain ⟨A3, c3, rfl⟩ := hl.form
  have HL := Lib.hid (And.intro hl hln)
  clear hl hln
  by_cases b3 : (l.length : Int) ≤ 2147483647
  case neg =>
    go_enter Try.func13, Try.ntmps13
    go_wp2
    go_ret
    exact ⟨rfl, Below.refl _ _⟩
  have HP := Lib.hid (proper_calls w.heap.size _ l w HL.out.1 (by omega))
  obtain ⟨i0, hi0, hz0, hz1, hz2⟩ := info_parts Av.Try.infoAct
  go_enter Try.func13, Try.ntmps13
  go_wp2_with fail
  refine HP.out.mono ?_
  rintro e w1 ⟨q, rfl, hq, n1, rfl⟩
  cases q
  case false =>
    clear hq
    go_wp2_with fail
    go_ret
    exact ⟨rfl, Below.drewN _ _⟩
  have HPL := Lib.hid (hq rfl)
  clear hq
  have hg := good_run l .nil good_nil
  have hlen := run_list_len l .nil good_nil
  simp only [IT.list, List.length_nil, Nat.zero_add] at hlen
  obtain ⟨xs, hxs⟩ : ∃ xs, xs = (runI .nil l).1.list := ⟨_, rfl⟩
  rw [← hxs] at hlen
  have d1 : lastD (l ++ [⟨5, 0, 0, 0⟩]) = ⟨⟨0, 0, 0⟩, false, xs, 0⟩ := by rw [last_one, hxs]; rfl
  have d2 : lastD (l ++ [⟨6, 0, 0, 0⟩]) = ⟨⟨0, 0, 0⟩, false, [], xs.length⟩ := by rw [last_one, hxs]; rfl
  have HD := Lib.hid (And.intro d1 d2)
  have HK := Lib.hid (show (Av.runA [] .nil (actsOf l)).1.keys = xs.map Sp.lo by rw [hxs]; exact tree_same l)
  have hxl : xs.length ≤ 10000000000 := by omega
  have p5 : PropA ⟨5, 0, 0, 0⟩ := fun h => by simp only at h; omega
  have p6 : PropA ⟨6, 0, 0, 0⟩ := fun h => by simp only at h; omega
  have HPA := Lib.hid (And.intro p5 p6)
  clear hg hxs d1 d2 hlen p5 p6
  have HW1 := Lib.hid (show Below w.heap.size w (w.drewN n1) from Below.drewN _ _)
  generalize w.drewN n1 = w1 at HW1 ⊢
  have HS1 := Lib.hid (fun (w2 : World) (h : Below w.heap.size w w2) (m : List MarkD) (mv : Value) (hm : SlC 4 markCell w2 w2.heap.size mv m) (hmn : ∀ n c, mv = .slice none n c → n = 0 ∧ c = 0) (hmm : m.length ≤ 3000000000) (h0 : 0 < m.length) (hp : PropL (l ++ m)) => @spanLast_at (.slice A3 l.length c3) mv l m w2 ((HL.out.1.below h).mono h.size) HL.out.2 hm hmn (by omega) hmm h0 hp)
  go_wp2_with fail
  go_loopw [3, 4] (fun v i wr => ∃ k : Nat, k ≤ l.length ∧ i = .int .i64 (k : Nat) ∧ Hid (ActRow w.heap.size w wr v (actsOf (l.take k)))) (fun _ i _ => l.length - (intOf i).toNat)
  case atStart => exact ⟨0, Nat.zero_le _, rfl, Lib.hid ⟨World.ownsRow_nil _ _ _ _, HW1.out⟩⟩
  case round =>
    obtain ⟨k, hk, rfl, HR⟩ := hrel
    by_cases hlt : k < l.length
    · obtain ⟨b, off, a, rfl, g1, g3, g4, g5, z⟩ := HL.out.1.at_ hlt
      have HF := HR.out.below
      have q0 := (HF.cell (p := ⟨b, off + k * 4, none⟩) g3).trans (z 0 _ rfl)
      have q1 := (HF.cell (p := ⟨b, off + k * 4 + 1, none⟩) g3).trans (z 1 _ rfl)
      have hta : actsOf (l.take (k + 1)) = actsOf (l.take k) ++ actOf a := by
        have hgg := (List.getElem?_eq_some_iff.1 g5).2
        rw [List.take_succ_eq_append_getElem hlt, hgg, actsOf_snoc]
      have HTA := Lib.hid hta
      have hal := actsOf_len (l.take k)
      rw [List.length_take] at hal
      have hfs := HF.size
      clear z g5 hta HF
      obtain ⟨act, lo, hi, val⟩ := a
      simp only at q0 q1
      generalize actsOf (l.take k) = L at *
      have dd : act = 0 ∨ act = 1 ∨ act = 2 ∨ ((act == 0) = false ∧ (act == 1) = false ∧ (act == 2) = false) := by
        simp only [beq_eq_false_iff_ne]; omega
      rcases dd with rfl | rfl | rfl | ⟨e0, e1, e2⟩
      · have ha : actOf ⟨0, lo, hi, val⟩ = [⟨0, lo, 0⟩] := rfl
        rw [ha] at HTA
        clear ha
        go_wp2_with (at_builtin; go_loud (refine wpList_append_own _ rfl (.tmp 32) (.tmp 39) 73 rfl w.heap.size 75 i0 _ 3 24 Try.underlying73 hi0 hz0 hz1 hz2 rfl (by omega) _ L.length _ rfl (HR.out.own.alloc _) ⟨wr.heap.size, 0, none⟩ 1 1 [.int .i64 0, .int .i64 lo, .int .i64 0] rfl rfl (news_blk (Blk.new wr _ _)) (by simp [Value.oneCell']) (by unfold maxLen; omega) (by omega) (by simp; omega) ?_; intro v' w3 hown' hgrow _))
        refine ⟨⟨k + 1, by omega, by go_num, Lib.hid ⟨?_, (HR.out.below.alloc hfs _).grown hgrow (by simp; omega) (fun g hg => (HR.out.own.lt g hg).1)⟩⟩, by simp [intOf]; omega⟩
        rw [HTA.out, List.length_append, Av.actCells_append]
        exact hown'
      · have ha : actOf ⟨1, lo, hi, val⟩ = [⟨0, lo, 0⟩] := rfl
        rw [ha] at HTA
        clear ha
        go_wp2_with (at_builtin; go_loud (refine wpList_append_own _ rfl (.tmp 32) (.tmp 39) 73 rfl w.heap.size 75 i0 _ 3 24 Try.underlying73 hi0 hz0 hz1 hz2 rfl (by omega) _ L.length _ rfl (HR.out.own.alloc _) ⟨wr.heap.size, 0, none⟩ 1 1 [.int .i64 0, .int .i64 lo, .int .i64 0] rfl rfl (news_blk (Blk.new wr _ _)) (by simp [Value.oneCell']) (by unfold maxLen; omega) (by omega) (by simp; omega) ?_; intro v' w3 hown' hgrow _))
        refine ⟨⟨k + 1, by omega, by go_num, Lib.hid ⟨?_, (HR.out.below.alloc hfs _).grown hgrow (by simp; omega) (fun g hg => (HR.out.own.lt g hg).1)⟩⟩, by simp [intOf]; omega⟩
        rw [HTA.out, List.length_append, Av.actCells_append]
        exact hown'
      · have ha : actOf ⟨2, lo, hi, val⟩ = [⟨1, lo, 0⟩] := rfl
        rw [ha] at HTA
        clear ha
        go_wp2_with (at_builtin; go_loud (refine wpList_append_own _ rfl (.tmp 43) (.tmp 50) 73 rfl w.heap.size 75 i0 _ 3 24 Try.underlying73 hi0 hz0 hz1 hz2 rfl (by omega) _ L.length _ rfl (HR.out.own.alloc _) ⟨wr.heap.size, 0, none⟩ 1 1 [.int .i64 1, .int .i64 lo, .int .i64 0] rfl rfl (news_blk (Blk.new wr _ _)) (by simp [Value.oneCell']) (by unfold maxLen; omega) (by omega) (by simp; omega) ?_; intro v' w3 hown' hgrow _))
        refine ⟨⟨k + 1, by omega, by go_num, Lib.hid ⟨?_, (HR.out.below.alloc hfs _).grown hgrow (by simp; omega) (fun g hg => (HR.out.own.lt g hg).1)⟩⟩, by simp [intOf]; omega⟩
        rw [HTA.out, List.length_append, Av.actCells_append]
        exact hown'
      · have ha : actOf ⟨act, lo, hi, val⟩ = [] := by
          have n0 : ¬ act = 0 := by simpa using e0
          have n1 : ¬ act = 1 := by simpa using e1
          have n2 : ¬ act = 2 := by simpa using e2
          unfold actOf; simp [n0, n1, n2]
        rw [ha, List.append_nil] at HTA
        clear ha
        go_wp2_with fail
        exact ⟨⟨k + 1, by omega, by go_num, by rw [HTA.out]; exact HR⟩, by simp [intOf]; omega⟩
    · have : k = l.length := by omega
      subst this
      have HR' := HR.out
      rw [List.take_length] at HR'
      have hal := actsOf_len l
      have HLA := Lib.hid (And.intro (last_acts (actsOf l)) HK.out)
      clear HR
      have HR := Lib.hid HR'
      clear HR' HK
      obtain ⟨Aa, ca, rfl⟩ := own_form HR.out.own
      generalize (Av.runA [] .nil (actsOf l)).1.vals = vs at *
      generalize (Av.runA [] .nil (actsOf l)).1.keys = ks at *
      generalize actsOf l = L at *
      have ekl : ks.length = xs.length := by rw [HLA.out.2, List.length_map]
      have hrb := HR.out.below.size
      have HE := Lib.hid ekl
      clear ekl
      go_upto_region 15 with (fail)
      go_wp2_with fail
      refine (HS1.out _ (HR.out.below.alloc hrb _) [⟨5, 0, 0, 0⟩] _ (one_mark wr ⟨5, 0, 0, 0⟩) (fun _ _ h => by cases h) (by simp) (by simp) (prop_one HPL.out HPA.out.1) HD.out.1).mono ?_
      rintro e w2 ⟨A4, c4, rfl, s2, b2⟩
      have b2' : Below wr.heap.size wr w2 := ((Below.refl _ wr).alloc (Nat.le_refl _) _).trans (b2.mono (by simp))
      have o2 := own_fr HR.out.own (Fr.of_below (S := []) b2') (by simp)
      have B2 := HR.out.below.trans (b2'.mono hrb)
      go_upto_region 16 with (fail)
      have X3 := Blk.new w2 #[.int .i64 0, .int .i64 0, .int .i64 0, .bool false, .slice A4 xs.length c4, .int .i64 0] 52
      have B3 := B2.alloc B2.size (Obj.cells #[.int .i64 0, .int .i64 0, .int .i64 0, .bool false, .slice A4 xs.length c4, .int .i64 0] 52)
      have Q3 := s2.keep (KeepsSp.alloc w2 (Obj.cells #[.int .i64 0, .int .i64 0, .int .i64 0, .bool false, .slice A4 xs.length c4, .int .i64 0] 52))
      have o3 := o2.alloc (Obj.cells #[.int .i64 0, .int .i64 0, .int .i64 0, .bool false, .slice A4 xs.length c4, .int .i64 0] 52)
      have HB3 := Lib.hid (And.intro X3 (And.intro Q3 (And.intro o3 B3)))
      clear X3 Q3 o3 B3 s2 b2 b2' o2 B2 HR
      generalize w2.alloc (Obj.cells #[.int .i64 0, .int .i64 0, .int .i64 0, .bool false, .slice A4 xs.length c4, .int .i64 0] 52) = w3 at HB3 ⊢
      generalize w2.heap.size = f1 at *
      have hz3 := HB3.out.2.2.2.size
      go_wp2_with (at_builtin; go_loud (refine wpList_append_own _ rfl (.tmp 60) (.tmp 62) 73 rfl w.heap.size 75 i0 _ 3 24 Try.underlying73 hi0 hz0 hz1 hz2 rfl (by omega) _ L.length _ rfl (HB3.out.2.2.1.alloc _) ⟨w3.heap.size, 0, none⟩ 1 1 [.int .i64 4, .int .i64 0, .int .i64 0] rfl rfl (news_blk (Blk.new w3 _ _)) (by simp [Value.oneCell']) (by unfold maxLen; omega) (by omega) (by simp; omega) ?_; intro v4 w4 o4 g4 _))
      have kb : KB w.heap.size 75 w3 w4 := (KB.fr (Fr.alloc [] w3 (Obj.cells #[.int .i64 4, .int .i64 0, .int .i64 0] 75)) hz3).trans (KB.append (HB3.out.2.2.1.alloc _) g4 (by simp; omega))
      have X4 := kb.keep _ _ _ HB3.out.1 (by decide)
      have Q4 := HB3.out.2.1.keep (fun _ _ h => kb.keep _ _ _ h (by decide))
      have B4 := HB3.out.2.2.2.trans kb.below
      have e4 : Av.actCells L ++ [.int .i64 4, .int .i64 0, .int .i64 0] = Av.actCells (L ++ [⟨4, 0, 0⟩]) := by rw [Av.actCells_append]; rfl
      rw [e4] at o4
      have HAR := Lib.hid (Av.avlRun_calls [] (.slice none 0 0) v4 (L ++ [⟨4, 0, 0⟩]) w4 ⟨⟨none, 0, rfl, .inl rfl⟩⟩ (Av.own_SlA (by rw [List.length_append]; exact o4)) (by rw [List.length_append, List.length_singleton]; omega))
      have HB4 := Lib.hid (And.intro X4 (And.intro Q4 B4))
      clear kb X4 Q4 B4 e4 o4 g4 HB3
      refine HAR.out.mono ?_
      rintro e w5 ⟨v5, rfl, T5, B5⟩
      rw [HLA.out.1] at T5
      have HTL := Lib.hid (Av.treeLast_calls _ v5 (Av.runN [] L) ⟨0, false, ks, vs⟩ w5 T5 (by unfold Av.runN; rw [Av.runA_len]; omega))
      obtain ⟨A5, c5, rfl⟩ : ∃ A c, v5 = .slice A ((Av.runN [] L).length + 1) c := by
        obtain ⟨cs, ho, _⟩ := T5
        obtain ⟨A, c, e⟩ := own_form ho
        exact ⟨A, c, by rw [e]; simp⟩
      have HX5 := Lib.hid (And.intro (HB4.out.1.below B5 HB4.out.1.lt) (And.intro (HB4.out.2.1.keep (KeepsSp.below B5)) (HB4.out.2.2.trans (B5.mono HB4.out.2.2.size))))
      clear T5 B5 HB4 HAR
      go_wp2_with fail
      refine HTL.out.mono ?_
      rintro e w6 ⟨u, rfl, LA, B6⟩
      obtain ⟨ka, kc, va, vc, rfl, k1, k2, k3, k4, k5, k6⟩ := LA.is
      simp only at k1 k2 k3 k4 k5 k6 ⊢
      have HX6 := Lib.hid (And.intro (HX5.out.1.below B6 HX5.out.1.lt) (And.intro (HX5.out.2.1.keep (KeepsSp.below B6)) (And.intro (HX5.out.2.2.trans (B6.mono HX5.out.2.2.size)) k1)))
      clear LA B6 HX5 HTL k1 k2 k3 k4 k5 k6
      rw [HE.out] at HX6 ⊢
      go_upto_region 17 with (fail)
      have X7 := HX6.out.1.alloc (Obj.cells #[.int .i64 0, .bool false, .slice ka xs.length kc, .slice va vs.length vc] 77)
      have U7 := Blk.new w6 #[.int .i64 0, .bool false, .slice ka xs.length kc, .slice va vs.length vc] 77
      have Q7 := HX6.out.2.1.keep (KeepsSp.alloc w6 (Obj.cells #[.int .i64 0, .bool false, .slice ka xs.length kc, .slice va vs.length vc] 77))
      have b7 : Below w6.heap.size w6 (w6.alloc (Obj.cells #[.int .i64 0, .bool false, .slice ka xs.length kc, .slice va vs.length vc] 77)) := (Below.refl _ _).alloc (Nat.le_refl _) _
      have B7 := HX6.out.2.2.1.trans (b7.mono HX6.out.2.2.1.size)
      have K7 := (HX6.out.2.2.2.below b7).mono b7.size
      have HX7 := Lib.hid (And.intro X7 (And.intro Q7 (And.intro B7 (And.intro K7 U7))))
      clear X7 U7 Q7 b7 B7 K7 HX6
      generalize w6.alloc (Obj.cells #[.int .i64 0, .bool false, .slice ka xs.length kc, .slice va vs.length vc] 77) = w7 at HX7 ⊢
      generalize w6.heap.size = f2 at *
      go_wp2_with fail
      refine (HS1.out _ (HX7.out.2.2.1.alloc HX7.out.2.2.1.size _) [⟨6, 0, 0, 0⟩] _ (one_mark w7 ⟨6, 0, 0, 0⟩) (fun _ _ h => by cases h) (by simp) (by simp) (prop_one HPL.out HPA.out.2) HD.out.2).mono ?_
      rintro e w8 ⟨A8, c8, rfl, s8, b8⟩
      have b8' : Below w7.heap.size w7 w8 := ((Below.refl _ w7).alloc (Nat.le_refl _) _).trans (b8.mono (by simp))
      have HX8 := Lib.hid (And.intro (HX7.out.1.below b8' HX7.out.1.lt) (And.intro (HX7.out.2.1.keep (KeepsSp.below b8')) (And.intro (HX7.out.2.2.1.trans (b8'.mono HX7.out.2.2.1.size)) (And.intro ((HX7.out.2.2.2.1.below b8').mono b8'.size) (HX7.out.2.2.2.2.below b8' HX7.out.2.2.2.2.lt)))))
      clear s8 b8 b8' HX7
      go_upto_region 18 with (fail)
      have X9 := HX8.out.1.alloc (Obj.cells #[.int .i64 0, .int .i64 0, .int .i64 0, .bool false, .slice A8 0 c8, .int .i64 xs.length] 52)
      have N9 := Blk.new w8 #[.int .i64 0, .int .i64 0, .int .i64 0, .bool false, .slice A8 0 c8, .int .i64 xs.length] 52
      have Q9 := (HX8.out.2.1.keep (KeepsSp.alloc w8 (Obj.cells #[.int .i64 0, .int .i64 0, .int .i64 0, .bool false, .slice A8 0 c8, .int .i64 xs.length] 52))).toC
      have b9 : Below w8.heap.size w8 (w8.alloc (Obj.cells #[.int .i64 0, .int .i64 0, .int .i64 0, .bool false, .slice A8 0 c8, .int .i64 xs.length] 52)) := (Below.refl _ _).alloc (Nat.le_refl _) _
      have B9 := HX8.out.2.2.1.trans (b9.mono HX8.out.2.2.1.size)
      have K9 := (HX8.out.2.2.2.1.below b9).mono b9.size
      have U9 := HX8.out.2.2.2.2.alloc (Obj.cells #[.int .i64 0, .int .i64 0, .int .i64 0, .bool false, .slice A8 0 c8, .int .i64 xs.length] 52)
      have HX9 := Lib.hid (And.intro Q9 (And.intro B9 K9))
      have x4 := X9.cell 4
      have u2 := U9.cell 2
      have n5 := N9.cell 5
      clear X9 Q9 b9 B9 K9 U9 N9 HX8
      generalize w8.alloc (Obj.cells #[.int .i64 0, .int .i64 0, .int .i64 0, .bool false, .slice A8 0 c8, .int .i64 xs.length] 52) = w9 at HX9 x4 u2 n5 ⊢
      generalize w8.heap.size = f3 at *
      have t0 : ((xs.length : Int) != (xs.length : Int)) = false := by simp
      clear HS1 HD HPA hrb hz3 hal
      go_wp2_with fail
      go_loopw [11] (fun i wr => ∃ j : Nat, j ≤ xs.length ∧ i = .int .i64 (j : Nat) ∧ Hid (∃ n, wr = w9.drewN n)) (fun i _ => xs.length - (intOf i).toNat)
      case atStart => exact ⟨0, Nat.zero_le _, rfl, (show ∃ n, w9 = w9.drewN n from ⟨0, rfl⟩)⟩
      case round =>
        obtain ⟨j, hj, rfl, HN⟩ := hrel
        obtain ⟨n5, hn5⟩ := HN.out
        subst hn5
        by_cases hlt : j < xs.length
        · obtain ⟨b1, o1, s, rfl, h11, _, _, g1, z1⟩ := HX9.out.1.at_ hlt
          obtain ⟨b2, o2, rfl, h21, _, z2⟩ := Av.it1_at HX9.out.2.2 (i := j) (by rw [HE.out]; exact hlt)
          have q0 : w9.cell? ⟨b1, o1 + j * 3, none⟩ = some (.int .i64 s.lo) := z1 0 _ rfl
          have es : ks[j]'(by rw [HE.out]; exact hlt) = s.lo := by
            have h1 : ks[j]? = some s.lo := by rw [HLA.out.2, List.getElem?_map, g1]; rfl
            exact (List.getElem?_eq_some_iff.1 h1).2
          rw [es] at z2
          rw [HE.out] at h21
          have p3 : (0 : Int) ≤ (j : Int) := by omega
          have p4 : (j : Int) < (xs.length : Int) := by omega
          have ne : (s.lo != s.lo) = false := by simp
          clear z1 g1 es
          go_wp2_with fail
          go_quiet (fail)
          go_wp2_with fail
          exact ⟨⟨j + 1, by omega, by go_num, (show ∃ n, _ = w9.drewN n from ⟨_, rfl⟩)⟩, by simp [intOf]; omega⟩
        · obtain rfl : j = xs.length := by omega
          go_wp2_with fail
          go_ret
          exact ⟨rfl, HX9.out.2.1.trans (Below.drewN _ _)⟩
end Go.Proofs.Ytomclflknjkhfaa
