/- impl.intervalDo. -/
import Derived.Test.YtomclflknjkhfaaItvD0
namespace Go.Proofs.Ytomclflknjkhfaa
open Go.RowKit ItP

theorem or9 {a b c d e f g h i R : Prop} (hh : a ∨ b ∨ c ∨ d ∨ e ∨ f ∨ g ∨ h ∨ i) (h1 : a → R) (h2 : b → R) (h3 : c → R) (h4 : d → R) (h5 : e → R) (h6 : f → R) (h7 : g → R) (h8 : h → R) (h9 : i → R) : R := by
  rcases hh with h | h | h | h | h | h | h | h | h
  · exact h1 h
  · exact h2 h
  · exact h3 h
  · exact h4 h
  · exact h5 h
  · exact h6 h
  · exact h7 h
  · exact h8 h
  · exact h9 h
/-- a call of a function, as a step of a region that draws. -/
theorem step_call {P : Program} {ops : Array Oper} {o : Oper} {a : Act} {w : World} {K : Act → World → Prop} {Q : Exit → Act → World → Prop} {E : Prop} (hgd : o.guard = none) (f : FuncId) (args : Array Value)
    (hrun : (execOp a.eval o).run P w = .ok (.enter f args) w) (hc : Calls P f args w fun e w' => ∃ v, e = .returned v ∧ K (a.put o.dst v) w') : if Region.wanted o (yielded ops a.tmps) = true then Oper.wp P o a w K Q else E := by
  have hw : Region.wanted o (yielded ops a.tmps) = true := by simp [Region.wanted, hgd]
  rw [if_pos hw]
  unfold Oper.wp
  rw [hrun]
  refine hc.mono ?_
  rintro e w' ⟨v, rfl, hK⟩
  exact hK
/-- the cells of a row of one's own. -/
theorem row_at {w : World} {B n c : Nat} {A : Option Addr} {xs : List Sp} (h : w.ownsRow B 131 3 (.slice A n c) n (xs.flatMap spC)) (hn : xs.length = n) {i : Nat} (hi : i < n) :
    ∃ g cur s, A = some ⟨g, 0, none⟩ ∧ n ≤ c ∧ xs[i]? = some s ∧ Blk w g cur 131 ∧ cur[i * 3]? = some (.int .i64 s.lo) ∧ cur[i * 3 + 1]? = some (.int .i64 s.hi) ∧ cur[i * 3 + 2]? = some (.int .i64 s.v) := by
  subst hn
  rcases h.2 with ⟨_, h0⟩ | ⟨g, cap, cur, e, h1, h2, h3, h4, h5, h6⟩
  · omega
  · cases e
    have q : ∀ j u, (spC xs[i])[j]? = some u → cur[i * 3 + j]? = some u := by
      intro j u hj
      have hjl : j < 3 := by rw [← spC_len xs[i]]; exact (List.getElem?_eq_some_iff.1 hj).1
      have a0 := flat_get spC_len xs i _ (List.getElem?_eq_getElem hi) j u hj
      rw [← h6, List.getElem?_take_of_lt (by omega)] at a0
      rw [← a0]; simp
    exact ⟨g, cur, xs[i], rfl, h3, List.getElem?_eq_getElem hi, h2, q 0 _ rfl, q 1 _ rfl, q 2 _ rfl⟩
set_option maxRecDepth 100000 in
set_option maxHeartbeats 6400000 in
theorem intervalDo_calls (B tb : Nat) (lv : Value) (l : List MarkD) (w : World) (hl : SlC 4 markCell w B lv l) (hB : B ≤ w.heap.size) (htb : B ≤ tb) (ht : TreeW w tb .nil) (hln : l.length ≤ 7000000000) (hp : PropL l) :
    Calls Try.prog 43 #[.pointer (some ⟨tb, 0, none⟩), lv] w fun e w' => ∃ v', e = .returned v' ∧ Founds w' B v' (runI .nil l).2 ∧ Below B w w' := by
  obtain ⟨i0, hi0, hz0, hz1, hz2⟩ := info_parts Try.infoFound
  obtain ⟨A3, c3, rfl⟩ := hl.form
  have HL := Lib.hid hl
  have HP := Lib.hid hp
  have HI := Lib.hid (show ItHead B tb l w 0 .nil [] (.slice none 0 0) w from ⟨FOuts.start _ _, ht, rfl, List.Pairwise.nil, good_nil, by simp [IT.ids], Nat.le_refl _⟩)
  have HB := Lib.hid (And.intro hB htb)
  clear hl hp ht htb hB
  go_enter Try.func43, Try.ntmps43
  go_wp2_with fail
  go_loopw [5, 14] (fun v i wr => ∃ k t cs, k ≤ l.length ∧ i = .int .i64 (k : Nat) ∧ Hid (ItHead B tb l w k t cs v wr)) (fun _ i _ => l.length - (intOf i).toNat)
  case atStart => exact ⟨0, .nil, [], Nat.zero_le _, rfl, HI⟩
  case round =>
    obtain ⟨k, t, cs, hk, rfl, HK⟩ := hrel
    by_cases hlt : k < l.length
    · obtain ⟨b, off, a, rfl, g1, g3, g4, g5, z⟩ := HL.out.at_ hlt
      have hpa := HP.out a (List.mem_of_getElem? g5)
      have hTop := ItTop.mk' a HK.out HB.out.1 HB.out.2
      obtain ⟨act, lo, hi, val⟩ := a
      have hw : Below B w wr := HK.out.outs.below
      have q0 := (hw.cell (p := ⟨b, off + k * 4, none⟩) g3).trans (z 0 _ rfl)
      have q1 := (hw.cell (p := ⟨b, off + k * 4 + 1, none⟩) g3).trans (z 1 _ rfl)
      have q2 := (hw.cell (p := ⟨b, off + k * 4 + 2, none⟩) g3).trans (z 2 _ rfl)
      have q3 := (hw.cell (p := ⟨b, off + k * 4 + 3, none⟩) g3).trans (z 3 _ rfl)
      have blt : b < wr.heap.size := Nat.lt_of_lt_of_le g4 hw.size
      have HA := Lib.hid g5
      have HPA := Lib.hid hpa
      simp only [fnd0] at hTop
      have HT := Lib.hid hTop
      clear g5 z hw hpa hTop
      go_upto_block 2 with (fail)
      generalize hW : ((wr.alloc (Obj.cells #[.int .i64 act, .int .i64 lo, .int .i64 hi, .int .i64 val] 49)).alloc (Obj.cells #[.int .i64 0, .int .i64 0, .int .i64 0, .bool false, .slice none 0 0, .int .i64 0] 52)).alloc (Obj.cells #[.int .i64 0, .int .i64 0, .int .i64 0] 131) = W at HT ⊢
      clear hW q0 q1 q2 q3 blt
      generalize hmb : wr.heap.size = mb at HT ⊢
      clear hmb HK
      go_cut [] from 15 to 111 (fun wx => ∃ T d A c, Hid (ItMid B tb l w k T cs u5 ⟨act, lo, hi, val⟩ d A c (mb + 1) (mb + 1 + 1) wx))
      case first =>
        have m0 : W.cell? ⟨mb, 0, none⟩ = some (.int .i64 act) := HT.out.fm.cell 0
        have m1 : W.cell? ⟨mb, 1, none⟩ = some (.int .i64 lo) := HT.out.fm.cell 1
        have m2 : W.cell? ⟨mb, 2, none⟩ = some (.int .i64 hi) := HT.out.fm.cell 2
        have m3 : W.cell? ⟨mb, 3, none⟩ = some (.int .i64 val) := HT.out.fm.cell 3
        have hlen : t.ids.length ≤ 10000000000 := by have := HT.out.head.len; omega
        have HLn := Lib.hid hlen
        clear hlen
        obtain ⟨x, y, z, hkv⟩ := kv_form (t.get lo)
        have HKV := Lib.hid hkv
        clear hkv
        have dd : act = 0 ∨ act = 1 ∨ act = 2 ∨ act = 3 ∨ act = 4 ∨ act = 5 ∨ act = 6 ∨ act = 7 ∨ ((act == 0) = false ∧ (act == 1) = false ∧ (act == 2) = false ∧ (act == 3) = false ∧ (act == 4) = false ∧ (act == 5) = false ∧ (act == 6) = false ∧ (act == 7) = false) := by
          simp only [beq_eq_false_iff_ne]; omega
        refine or9 dd ?k0 ?k1 ?k2 ?k3 ?k4 ?k5 ?k6 ?k7 ?k8 <;> (clear dd; intro dd)
        case k0 =>
          subst dd
          have HC := Lib.hid (tree_put tb ⟨lo, hi, val⟩ t W HT.out.head.tree HT.out.head.nd HT.out.head.good.rt HLn.out (Int.le_of_lt (HPA.out (.inl rfl))))
          go_wp2_with fail
          refine HC.out.mono ?_
          rintro e w2 ⟨rfl, nb, hnb, hT, hF⟩
          rw [show kvOf (t.get (Sp.mk lo hi val).lo) = _ from HKV.out]
          have hc := HT.out.call (T := nextI ⟨0, lo, hi, val⟩ nb t) hT hF
          obtain ⟨⟨f1, f2⟩, y3, _, z0, z1, z2⟩ := hc.go
          have HM := Lib.hid (HT.out.kv hc hnb rfl HKV.out)
          clear hc hT hF
          go_wp2_with fail
          go_meet
          exact ⟨_, _, _, _, HM.out⟩
        case k1 =>
          subst dd
          have HC := Lib.hid (tree_add tb ⟨lo, hi, val⟩ t W HT.out.head.tree HT.out.head.nd HT.out.head.good.rt HLn.out (Int.le_of_lt (HPA.out (.inr (.inl rfl)))))
          go_wp2_with fail
          refine HC.out.mono ?_
          rintro e w2 ⟨rfl, nb, hnb, hT, hF⟩
          rw [show kvOf (t.get (Sp.mk lo hi val).lo) = _ from HKV.out]
          have hc := HT.out.call (T := nextI ⟨1, lo, hi, val⟩ nb t) hT hF
          obtain ⟨⟨f1, f2⟩, y3, _, z0, z1, z2⟩ := hc.go
          have HM := Lib.hid (HT.out.kv hc hnb rfl HKV.out)
          clear hc hT hF
          go_wp2_with fail
          go_meet
          exact ⟨_, _, _, _, HM.out⟩
        case k2 =>
          subst dd
          have HC := Lib.hid (tree_remove tb lo t W HT.out.head.tree HT.out.head.nd HT.out.head.good.rt HLn.out)
          go_wp2_with fail
          refine HC.out.mono ?_
          rintro e w2 ⟨rfl, hT, hF⟩
          rw [HKV.out]
          have hc := HT.out.call (T := nextI ⟨2, lo, hi, val⟩ W.heap.size t) hT hF
          obtain ⟨⟨f1, f2⟩, y3, _, z0, z1, z2⟩ := hc.go
          have HM := Lib.hid (HT.out.kv hc (Nat.le_refl _) rfl HKV.out)
          clear hc hT hF
          go_wp2_with fail
          go_meet
          exact ⟨_, _, _, _, HM.out⟩
        case k3 =>
          subst dd
          have HC := Lib.hid (tree_get tb lo t W HT.out.head.tree)
          go_wp2_with fail
          refine HC.out.mono ?_
          rintro e w2 ⟨rfl, hF⟩
          rw [HKV.out]
          have hc := HT.out.call (T := nextI ⟨3, lo, hi, val⟩ W.heap.size t) (HT.out.head.tree.fr hF) (hF.mono (by simp))
          obtain ⟨⟨f1, f2⟩, y3, _, z0, z1, z2⟩ := hc.go
          have HM := Lib.hid (HT.out.kv hc (Nat.le_refl _) rfl HKV.out)
          clear hc hF
          go_wp2_with fail
          go_meet
          exact ⟨_, _, _, _, HM.out⟩
        case k4 =>
          subst dd
          have HC := Lib.hid (tree_overlaps tb lo hi t W HT.out.head.tree HLn.out (Int.le_of_lt (HPA.out (.inr (.inr rfl)))))
          have hol := over_len lo hi t []
          obtain ⟨xs, hxs⟩ : ∃ xs, xs = t.over lo hi [] := ⟨_, rfl⟩
          rw [← hxs] at HC hol
          simp only [List.length_nil, Nat.zero_add] at hol
          have hol2 := Nat.le_trans hol.2 HLn.out
          clear hol
          have HXS := Lib.hid hxs
          clear hxs
          go_wp2_with fail
          refine HC.out.mono ?_
          rintro e w2 ⟨v2, rfl, ho2, hk2⟩
          obtain ⟨A2, n2, rfl⟩ := own_form ho2
          have f2 : Fr [] W w2 := Fr.of_below hk2.below
          have hx2 := HT.out.fx.fr f2 (by simp)
          have tx : FndT w2 w2.heap.size (mb + 1) [] none 0 := ⟨hx2, World.ownsRow_nil _ _ _ _, hx2.lt, Nat.le_refl _⟩
          have H2 := Lib.hid (And.intro f2 ho2)
          have HS2 := Lib.hid (And.intro tx (FrB.refl w2.heap.size [mb + 1] w2))
          have HXB := Lib.hid hx2
          clear hk2 ho2 f2 tx hx2
          obtain ⟨j0, hj0, hy0, hy1, hy2⟩ := info_parts Try.infoSpan
          go_wp2_with fail
          go_loopw [77] (fun i wr => ∃ j ys A c, j ≤ xs.length ∧ i = .int .i64 (j : Nat) ∧ Hid (ys = xs.take j) ∧ ys.length = j ∧ Hid (FndT wr w2.heap.size (mb + 1) ys A c ∧ FrB w2.heap.size [mb + 1] w2 wr)) (fun i _ => xs.length - (intOf i).toNat)
          case atStart => exact ⟨0, [], none, 0, Nat.zero_le _, rfl, rfl, rfl, HS2⟩
          case round =>
            obtain ⟨j, ys, A, c, hj, rfl, HYS, hyl, HQ⟩ := hrel
            have hyb : ys.length ≤ 10000000000 := by omega
            have HYL := Lib.hid hyl
            clear hyl
            by_cases hlt2 : j < xs.length
            · obtain ⟨g, cur, s, rfl, hnc, hs, hg, r0, r1, r2⟩ := row_at H2.out.2 rfl hlt2
              have hgq := hg.frB HQ.out.2 hg.lt (fun e => by rw [List.mem_singleton.1 e] at hg; exact absurd (Blk.ty hg HXB.out) (by decide))
              have q0 : wr.cell? ⟨g, j * 3, none⟩ = some (.int .i64 s.lo) := (hgq.cell _).trans r0
              have q1 : wr.cell? ⟨g, j * 3 + 1, none⟩ = some (.int .i64 s.hi) := (hgq.cell _).trans r1
              have q2 : wr.cell? ⟨g, j * 3 + 2, none⟩ = some (.int .i64 s.v) := (hgq.cell _).trans r2
              have gl : g < wr.heap.size := hgq.lt
              have HS := Lib.hid hs
              have hT9 := HQ.out.1.alloc (Obj.cells #[.int .i64 s.lo, .int .i64 s.hi, .int .i64 s.v] 131)
              have hK9 := Blk.new wr #[.int .i64 s.lo, .int .i64 s.hi, .int .i64 s.v] 131
              have hF9 : FrB w2.heap.size [mb + 1] w2 (wr.alloc (Obj.cells #[.int .i64 s.lo, .int .i64 s.hi, .int .i64 s.v] 131)) := HQ.out.2.alloc HQ.out.1.le _
              have H9 := Lib.hid (And.intro hT9 (And.intro hK9 hF9))
              clear hs hg r0 r1 r2 hgq hT9 hK9 hF9
              go_upto_region 20 with (fail)
              clear q0 q1 q2
              generalize wr.alloc (Obj.cells #[.int .i64 s.lo, .int .i64 s.hi, .int .i64 s.v] 131) = w9 at *
              have k0 : w9.cell? ⟨wr.heap.size, 0, none⟩ = some (.int .i64 s.lo) := H9.out.2.1.cell 0
              have k1 : w9.cell? ⟨wr.heap.size, 1, none⟩ = some (.int .i64 s.hi) := H9.out.2.1.cell 1
              have k2 : w9.cell? ⟨wr.heap.size, 2, none⟩ = some (.int .i64 s.v) := H9.out.2.1.cell 2
              have x4 : w9.cell? ⟨mb + 1, 4, none⟩ = some (.slice A ys.length c) := H9.out.1.blk.cell 4
              go_region_law (first
                | (refine step_call rfl 74 #[.agg #[.int .i64 s.lo, .int .i64 s.hi, .int .i64 s.v]] (by go_simp) ((span_calls s.lo s.hi s.v _).mono ?_); rintro e w1 ⟨rfl, f1⟩; refine ⟨_, rfl, ?_⟩; have hT1 := (H9.out.1.drewN 1).fr f1; have hF1 : FrB w2.heap.size [mb + 1] w2 w1 := H9.out.2.2.trans (FrB.of_below ((Fr.drewN [] w9 1).comp f1 |>.below (by simp) H9.out.1.le)); have x41 : w1.cell? ⟨mb + 1, 4, none⟩ = some (.slice A ys.length c) := hT1.blk.cell 4; have xl1 : mb + 1 < w1.heap.size := hT1.blk.lt)
                | (refine step_append_lies _ rfl (.tmp 82) (.tmp 85) 50 rfl w2.heap.size 46 j0 _ 3 24 Try.underlying50 hj0 hy0 hy1 hy2 rfl (by omega) (.slice A ys.length c) ys.length _ (by rfl) (hT1.spans.alloc _) ⟨w1.heap.size, 0, none⟩ 1 1 (spC s) (by rfl) (by rfl) (news_blk (Blk.new w1 _ _)) (by simp [spC, Value.oneCell']) (by omega) (by unfold maxLen; omega) (by omega) (by have := hT1.le; simp; omega) _ (by rfl) ?_; intro gg cap w3 hown3 hgrow _ _; have hP := hT1.put hgrow hown3; have hN := (hT1.next _ hgrow).1; have x43 : w3.cell? ⟨mb + 1, 4, none⟩ = some (.slice A ys.length c) := hN.cell 4; have xf3 : ∀ i, w3.frozen? ⟨mb + 1, i, none⟩ = false := hN.frozen))
              all_goals
                go_wp2_with fail
                have e1 : ys ++ [s] = xs.take (j + 1) := by
                  obtain ⟨_, e⟩ := List.getElem?_eq_some_iff.1 HS.out
                  rw [HYS.out, List.take_succ_eq_append_getElem hlt2, e]
                exact ⟨⟨j + 1, ys ++ [s], _, _, by omega, by go_num, e1, by rw [List.length_append, HYL.out]; rfl, ⟨hP.1, hF1.trans hP.2⟩⟩, by simp [intOf]; omega⟩
            · have e1 : ys = xs := by
                rw [HYS.out, show j = xs.length by omega, List.take_length]
              have HE := Lib.hid e1
              clear e1
              have f3 : Fr [mb + 1] W wr := (H2.out.1.mono (by simp)).comp ⟨HQ.out.2.os, HQ.out.2.tape, HQ.out.2.output, HQ.out.2.size, HQ.out.2.block⟩
              have HM := Lib.hid (HT.out.mid (nb := W.heap.size) (a := ⟨4, lo, hi, val⟩) (d := ⟨zSp, false, ys, 0⟩) f3 (fun b hb => .inl (List.mem_singleton.1 hb))
                ⟨HT.out.head.tree.at_.fr f3 (fun hm => by rw [List.mem_singleton] at hm; exact absurd (Blk.ty HT.out.fx (hm ▸ HT.out.head.tree.at_)) (by decide)), IT.In.fr f3 HT.out.head.tree.lies (fun i hi hm => by rw [List.mem_singleton] at hm; subst hm; exact in_ne HT.out.fx (by decide) HT.out.head.tree.lies hi)⟩
                (Nat.le_refl _) (by rw [HE.out, HXS.out]; simp [toldI]) (own_SpSl HQ.out.1.spans rfl) HQ.out.1.blk (HT.out.fk.fr f3 (by simp)))
              clear f3
              go_wp2_with fail
              go_meet
              exact ⟨_, _, _, _, HM.out⟩
        case k5 =>
          subst dd
          have tx : FndX W W.heap.size (mb + 1) [] := ⟨none, 0, HT.out.fx, World.ownsRow_nil _ _ _ _, HT.out.fx.lt, Nat.le_refl _⟩
          have HC := Lib.hid (tree_each tb W.heap.size (mb + 1) t [] W HT.out.head.tree (fun x hx => ⟨IT.In.lt HT.out.head.tree.lies x hx, fun e => by rw [List.mem_singleton.1 e] at hx; exact in_ne HT.out.fx (by decide) HT.out.head.tree.lies hx⟩) tx (by have := HLn.out; simp; omega))
          clear tx
          go_wp2_with fail
          refine HC.out.mono ?_
          rintro e w2 ⟨rfl, ⟨A, c, r1⟩, r2⟩
          have f3 : Fr [mb + 1] W w2 := ⟨r2.os, r2.tape, r2.output, r2.size, r2.block⟩
          have HM := Lib.hid (HT.out.mid (nb := W.heap.size) (a := ⟨5, lo, hi, val⟩) (d := ⟨zSp, false, t.list, 0⟩) f3 (fun b hb => .inl (List.mem_singleton.1 hb))
            ⟨HT.out.head.tree.at_.fr f3 (fun hm => by rw [List.mem_singleton] at hm; exact absurd (Blk.ty HT.out.fx (hm ▸ HT.out.head.tree.at_)) (by decide)), IT.In.fr f3 HT.out.head.tree.lies (fun i hi hm => by rw [List.mem_singleton] at hm; subst hm; exact in_ne HT.out.fx (by decide) HT.out.head.tree.lies hi)⟩
            (Nat.le_refl _) (by simp [toldI]) (own_SpSl r1.spans rfl) r1.blk (HT.out.fk.fr f3 (by simp)))
          clear r1 r2 f3
          go_wp2_with fail
          go_meet
          exact ⟨_, _, _, _, HM.out⟩
        case k6 =>
          subst dd
          have HC := Lib.hid (tree_size tb t W HT.out.head.tree HLn.out)
          have hc := HT.out.call (T := t) HT.out.head.tree (Fr.refl _ _)
          obtain ⟨⟨f1, f2⟩, y3, y5, z0, z1, z2⟩ := hc.go
          go_wp2_with fail
          refine HC.out.mono ?_
          rintro e w2 ⟨rfl, rfl⟩
          go_wp2_with fail
          go_meet
          exact ⟨_, _, _, _, HT.out.mid (nb := w2.heap.size) (a := ⟨6, lo, hi, val⟩) (d := ⟨zSp, false, [], (t.ids.length : Nat)⟩) (A := none) (c := 0) (Fr.setCell (S := [mb + 1]) w2 (mb + 1) 5 _ (by simp)) (fun b hb => .inl (List.mem_singleton.1 hb))
            (HT.out.num hc _) (Nat.le_refl _) (by simp [toldI, list_len]) (SpSl.nil _) (hc.fx.set 5 _) (hc.fk.far (by omega))⟩
        case k7 =>
          subst dd
          have HC := Lib.hid (tree_height tb t W HT.out.head.tree)
          have hc := HT.out.call (T := t) HT.out.head.tree (Fr.refl _ _)
          obtain ⟨⟨f1, f2⟩, y3, y5, z0, z1, z2⟩ := hc.go
          go_wp2_with fail
          refine HC.out.mono ?_
          rintro e w2 ⟨rfl, rfl⟩
          go_wp2_with fail
          go_meet
          exact ⟨_, _, _, _, HT.out.mid (nb := w2.heap.size) (a := ⟨7, lo, hi, val⟩) (d := ⟨zSp, false, [], t.ht⟩) (A := none) (c := 0) (Fr.setCell (S := [mb + 1]) w2 (mb + 1) 5 _ (by simp)) (fun b hb => .inl (List.mem_singleton.1 hb))
            (HT.out.num hc _) (Nat.le_refl _) (by simp [toldI]) (SpSl.nil _) (hc.fx.set 5 _) (hc.fk.far (by omega))⟩
        case k8 =>
          obtain ⟨e0, e1, e2, e3, e4, e5, e6, e7⟩ := dd
          have hc := HT.out.call (T := t) HT.out.head.tree (Fr.refl _ _)
          have HM := Lib.hid (HT.out.mid (nb := W.heap.size) (d := ⟨zSp, false, [], 0⟩) (A := none) (c := 0) (Fr.refl [] W) (by simp) (by simp only [beq_eq_false_iff_ne] at *; simp only [nextI]; rw [if_neg e0, if_neg e1, if_neg e2]; exact HT.out.head.tree) (Nat.le_refl _) (by simp only [beq_eq_false_iff_ne] at *; unfold toldI; simp [*]) (SpSl.nil _) hc.fx hc.fk)
          clear hc
          go_wp2_with fail
          go_meet
          exact ⟨_, _, _, _, HM.out⟩
      case rest =>
      obtain ⟨T, d, A, c, HM⟩ := hcut
      have y0 : wc.cell? ⟨mb + 1 + 1, 0, none⟩ = some (.int .i64 d.one.lo) := HM.out.fk.cell 0
      have y1 : wc.cell? ⟨mb + 1 + 1, 1, none⟩ = some (.int .i64 d.one.hi) := HM.out.fk.cell 1
      have y2 : wc.cell? ⟨mb + 1 + 1, 2, none⟩ = some (.int .i64 d.one.v) := HM.out.fk.cell 2
      go_wp2_with fail
      refine (span_calls _ _ _ _).mono ?_
      rintro e w4 ⟨rfl, f4⟩
      have X4 := HM.out.fx.fr f4 (by simp)
      have x0 : w4.cell? ⟨mb + 1, 0, none⟩ = some (.int .i64 0) := X4.cell 0
      have x1 : w4.cell? ⟨mb + 1, 1, none⟩ = some (.int .i64 0) := X4.cell 1
      have x2 : w4.cell? ⟨mb + 1, 2, none⟩ = some (.int .i64 0) := X4.cell 2
      have xf : ∀ i, w4.frozen? ⟨mb + 1, i, none⟩ = false := X4.frozen
      have fs : Fr [mb + 1] w4 (((w4.setCell ⟨mb + 1, 0, none⟩ (.int .i64 d.one.lo)).setCell ⟨mb + 1, 1, none⟩ (.int .i64 d.one.hi)).setCell ⟨mb + 1, 2, none⟩ (.int .i64 d.one.v)) :=
        ((Fr.setCell _ _ 0 _ (by simp)).comp (Fr.setCell _ _ 1 _ (by simp))).comp (Fr.setCell _ _ 2 _ (by simp))
      have X5 := ((X4.set 0 (.int .i64 d.one.lo)).set 1 (.int .i64 d.one.hi)).set 2 (.int .i64 d.one.v)
      have fw : Fr [mb + 1] wc _ := (f4.mono (by simp)).comp fs
      have ow := own_fr HM.out.outs.own fw (fun b hb => by rw [List.mem_singleton.1 hb]; exact HM.out.nx)
      have H5 := Lib.hid (And.intro X5 (And.intro fw ow))
      clear X4 fs X5 fw ow f4 y0 y1 y2
      go_upto_region 29 with (fail)
      generalize (((w4.setCell ⟨mb + 1, 0, none⟩ (.int .i64 d.one.lo)).setCell ⟨mb + 1, 1, none⟩ (.int .i64 d.one.hi)).setCell ⟨mb + 1, 2, none⟩ (.int .i64 d.one.v)) = w5 at *
      clear x0 x1 x2 xf
      have x0 : w5.cell? ⟨mb + 1, 0, none⟩ = some (.int .i64 d.one.lo) := H5.out.1.cell 0
      have x1 : w5.cell? ⟨mb + 1, 1, none⟩ = some (.int .i64 d.one.hi) := H5.out.1.cell 1
      have x2 : w5.cell? ⟨mb + 1, 2, none⟩ = some (.int .i64 d.one.v) := H5.out.1.cell 2
      have x3 : w5.cell? ⟨mb + 1, 3, none⟩ = some (.bool d.ok) := H5.out.1.cell 3
      have x4 : w5.cell? ⟨mb + 1, 4, none⟩ = some (.slice A d.all.length c) := H5.out.1.cell 4
      have x5 : w5.cell? ⟨mb + 1, 5, none⟩ = some (.int .i64 d.n) := H5.out.1.cell 5
      go_wp2_with (at_builtin; refine wpList_append_own _ rfl (.tmp 107) (.tmp 109) 57 rfl B 52 i0 _ 6 64 Try.underlying57 hi0 hz0 hz1 hz2 rfl (by omega) u5 k cs rfl (H5.out.2.2.alloc _) ⟨w5.heap.size, 0, none⟩ 1 1 _ rfl rfl (news_blk (Blk.new w5 _ _)) (by simp [Value.oneCell']) (by unfold maxLen; omega) (by omega) (by have h1 := HM.out.outs.below.size; have h2 := HB.out.1; have h3 := H5.out.2.1.size; simp; omega) ?_; intro v' w3 hown' hgrow _)
      exact ⟨⟨k + 1, _, _, by omega, by go_num, Lib.hid (HM.out.next H5.out.2.1 HA.out HB.out.1 hown' hgrow)⟩, by simp [intOf]; omega⟩
    · have : k = l.length := by omega
      subst this
      go_wp2_with fail
      go_ret
      have h := HK.out
      have o := h.outs
      rw [List.take_length] at o
      exact ⟨u5, rfl, ⟨cs, by rw [runI_len]; exact o.own, o.tr⟩, o.below⟩
end Go.Proofs.Ytomclflknjkhfaa
