/- laws.FnBtreeShapes's walk. -/
import Derived.Test.YtjbelfbfhcmgeaaBsQ
import Derived.Test.YtjbelfbfhcmgeaaRows3
import Derived.Deep.Cut
namespace Go.Proofs.Ytjbelfbfhcmgeaa.Kp
open Go.RowKit Om Bt

theorem NB.at_ {w : World} {n c : Nat} {A : Option Addr} {xs : List Bool} (h : NB w (.slice A n c) xs) {i : Nat} {x : Bool} (hi : xs[i]? = some x) : ∃ b off, A = some ⟨b, off, none⟩ ∧ xs.length ≤ c ∧ b < w.heap.size ∧ w.cell? ⟨b, off + i, none⟩ = some (.bool x) := by
  rcases h.is with ⟨e, rfl⟩ | ⟨b, off, c', cur, e, h1, h2, h3, h4⟩
  · simp at hi
  · cases e
    exact ⟨b, off, rfl, h1, h3.lt, (h3.cell _).trans (h4 i x hi)⟩
theorem NS.get {w : World} {n c : Nat} {A : Option Addr} {α : Type} {f : α → Int} {xs : List α} (h : NS w (.slice A n c) (xs.map f)) {i : Nat} {e : α} (he : xs[i]? = some e) : ∃ b off, A = some ⟨b, off, none⟩ ∧ xs.length ≤ c ∧ b < w.heap.size ∧ w.cell? ⟨b, off + i, none⟩ = some (.int .i64 (f e)) := by
  have hlt := (List.getElem?_eq_some_iff.1 he).1
  obtain ⟨b, off, e1, h1, _, h3, h4⟩ := h.at_ (i := i) (by rw [List.length_map]; exact hlt)
  refine ⟨b, off, e1, by simpa using h1, h3, ?_⟩
  rw [h4, List.getD_eq_getElem?_getD, List.getElem?_map, he]; rfl
/-- what the nodes behind a script are. -/
structure BShape (r : Int → Int) (l : List ActD) (h : Nat) (t : BE h) (ns : List KnD) (F : List LE) (M : R) : Prop where
  ens : ns = shapeE h t
  eF : F = Bt.flat h t
  wf : Bt.Wf r h t
  st : StE ns 0 h t
  nl : ns.length ≤ 5000000000
  pos : ns ≠ []
  hh : h ≤ l.length
  fl : F.length ≤ l.length
  keys : ∀ (i : Nat) d, ns[i]? = some d → d.keys.length ≤ 63 ∧ (d.leaf = false → 0 < d.keys.length)
  is : KidsOk (hasK ns) = true
  rise : Rise r F
  like : LikeR r (live F) M
theorem bshape_of (r : Int → Int) (l : List ActD) (hl : l.length ≤ 2147483647) : BShape r l (runB r newB l).1.1 (runB r newB l).1.2 (shapeE (runB r newB l).1.1 (runB r newB l).1.2) (Bt.flat (runB r newB l).1.1 (runB r newB l).1.2) (mapR r l []) := by
  have hbm := runB_bm l (BM.new r)
  have hmin := runB_min l (BM.new r) (show BMin newB from trivial)
  obtain ⟨h1, h2⟩ := run_len l (BM.new r)
  generalize (runB r newB l).1 = s at *
  obtain ⟨h, t⟩ := s
  replace h1 : (Bt.flat h t).length ≤ l.length := by
    have h0 : newB.flat.length = 0 := rfl
    rw [h0, Nat.zero_add] at h1; exact h1
  replace h2 : h ≤ l.length := by
    have h0 : newB.1 = 0 := rfl
    rw [h0, Nat.zero_add] at h2; exact h2
  have hsl := shape_len h t hbm.wf hmin
  have hp := shape_pos h t
  have hst := StE.all h t
  refine ⟨rfl, rfl, hbm.wf, hst, ?_, fun e => ?_, h2, h1, fun i d hd => ?_, ?_, wf_rise h t hbm.wf, hbm.like⟩
  · show (shapeE h t).length ≤ _; omega
  · replace e : shapeE h t = [] := e
    rw [e] at hp; simp at hp
  · have hi := (List.getElem?_eq_some_iff.1 hd).1
    obtain ⟨h', t', _, b2, b3, _⟩ := StE.sub h t 0 hbm.wf hst i (Nat.zero_le _) (by rw [Nat.zero_add]; exact hi)
    cases h' with
    | zero =>
      have h3 := b2.leaf
      rw [hd] at h3
      cases h3
      have hw : WfL r t' := b3
      refine ⟨?_, fun h => by cases h⟩
      have : (leafD t').keys.length = List.length (α := LE) t' := List.length_map (α := LE) _
      have := hw.2
      omega
    | succ m =>
      obtain ⟨ks, hks⟩ : ∃ k : List (Int × BE m), k = t' := ⟨t', rfl⟩
      subst hks
      have h3 := StE.node (ks := ks) b2
      rw [hd] at h3
      cases h3
      have hw : WfN r (Bt.Wf r m) (Bt.flat m) ks := b3
      simp only [List.length_map]
      exact ⟨by have := hw.2.1; omega, fun _ => hw.1⟩
  · unfold KidsOk
    have h3 := StE.ends t 0 hst
    rw [Nat.zero_add, ← hasK_len] at h3
    exact decide_eq_true (.inr h3)
theorem cells2_drew {w3 w : World} {p0 p1 : Addr} {v0 v1 : Value} (m : Nat) (h : w.cell? p0 = some v0 ∧ w.cell? p1 = some v1 ∧ ∃ n, w = w3.drewN n) :
    (w.drewN m).cell? p0 = some v0 ∧ (w.drewN m).cell? p1 = some v1 ∧ ∃ n, w.drewN m = w3.drewN n := by
  obtain ⟨h0, h1, n, rfl⟩ := h
  exact ⟨h0, h1, _, World.drewN_drewN _ _ _⟩
/-- what is kept in the last loop. -/
structure LastI (W : World) (pW : Nat) (kv vv : Value) (M : R) (F : List LE) (k v b : Value) (xs : List Int) (ov : Value) : Prop where
  blk : Blk W pW #[kv, vv] 42
  t : TT W kv vv M
  k : NS W k (F.map fun e => e.1)
  v : NS W v (F.map fun e => e.2.1)
  b : NB W b (F.map fun e => e.2.2)
  o : SlR W W.heap.size ov (xs.map i64v)
theorem LastI.drewN {W : World} {pW : Nat} {kv vv : Value} {M : R} {F : List LE} {k v b : Value} {xs : List Int} {ov : Value} (h : LastI W pW kv vv M F k v b xs ov) (n : Nat) : LastI (W.drewN n) pW kv vv M F k v b xs ov :=
  ⟨h.blk.drewN n, h.t.drewN n, h.k.below (Below.drewN _ _), h.v.below (Below.drewN _ _), h.b.below (Below.drewN _ _), h.o.drewN n⟩
set_option maxRecDepth 100000 in
set_option maxHeartbeats 6400000 in
theorem btreeShapes_calls (xs : List Int) (ov av : Value) (l : List ActD) (w : World) (ho : SlR w w.heap.size ov (xs.map i64v)) (ha : SlA w w.heap.size av l) :
    Calls Try.prog 4 #[ov, av] w fun e w' => e = .returned (.bool true) ∧ Below w.heap.size w w' := by
  obtain ⟨A, c, rfl⟩ := ho.form
  rw [List.length_map] at *
  obtain ⟨A1, c1, rfl⟩ := ha.form
  have HO := Lib.hid ho
  have HA := Lib.hid ha
  clear ho ha
  by_cases b1 : (xs.length : Int) ≤ 2147483647
  case neg =>
    go_enter Try.func4, Try.ntmps4
    go_wp2
    go_ret
    exact ⟨rfl, Below.refl _ _⟩
  by_cases b2 : (l.length : Int) ≤ 2147483647
  case neg =>
    go_enter Try.func4, Try.ntmps4
    go_wp2
    go_ret
    exact ⟨rfl, Below.refl _ _⟩
  have hB := bshape_of (rankOf xs) l (by omega)
  have H1 := Lib.hid (bshape_calls xs _ _ l w HO.out HA.out (by omega) (Nat.le_trans hB.nl (by omega)) hB.pos)
  obtain ⟨s, hs⟩ : ∃ s, s = bruns xs l := ⟨_, rfl⟩
  replace hB : BShape (rankOf xs) l s.1 s.2 (shapeE s.1 s.2) (Bt.flat s.1 s.2) (mapR (rankOf xs) l []) := by rw [hs]; exact hB
  rw [← hs] at H1
  clear hs
  obtain ⟨h, t⟩ := s
  simp only at hB H1
  generalize shapeE h t = ns at hB H1
  generalize Bt.flat h t = F at hB
  have HR := Lib.hid (shapeRows_calls xs (.slice A xs.length c) (.slice A1 l.length c1) l)
  generalize mapR (rankOf xs) l [] = M at hB HR
  have HX := Lib.hid hB
  have hns := hB.nl
  have hnp : 0 < ns.length := List.length_pos_iff.2 hB.pos
  clear hB
  go_enter Try.func4, Try.ntmps4
  go_wp2_with fail
  refine H1.out.mono ?_
  rintro e w1 ⟨nv, rfl, kr, bel1⟩
  obtain ⟨An, cn, rfl⟩ := kr.form
  have HK := Lib.hid (And.intro kr bel1)
  clear kr bel1 H1
  go_wp2_with fail
  refine (knots_calls ns hns (fun d hd => by
    obtain ⟨i, hi⟩ := List.getElem?_of_mem hd
    obtain ⟨h1, h2⟩ := HX.out.keys i d hi
    exact ⟨by omega, h2⟩) _ w1 HK.out.1).mono ?_
  rintro e w2 ⟨bel2, v2, rfl, A2, c2, rfl, hv2⟩
  have hkt : KT2 w2 w2.heap.size (.slice A2 (hasK ns).length c2) ns := by
    have := hv2 HX.out.is
    rw [hasK_len] at this ⊢
    exact this
  rw [HX.out.is, hasK_len]
  rw [hasK_len] at hkt
  have HK2 := Lib.hid (And.intro (HK.out.1.below bel2) (And.intro hkt (HK.out.2.trans (bel2.mono HK.out.2.size))))
  clear hv2 hkt bel2 HK
  have hnz : ((ns.length : Int) == 0) = false := by rw [beq_eq_false_iff_ne]; omega
  have HLV := Lib.hid (show Calls Try.prog 13 #[.slice An ns.length cn, .slice A2 ns.length c2, .int .i64 0, .int .i64 (h : Nat)] w2 fun e w' => e = .returned (.bool true) ∧ w' = w2 from
    level_calls ns hns _ _ w2 HK2.out.1 HK2.out.2.1 h (by have := HX.out.hh; omega) t 0 HX.out.wf HX.out.st)
  have HPT := Lib.hid (parted_calls xs (.slice A xs.length c) _ _ h t ns HX.out.ens w2 HX.out.wf hns (by rw [← HX.out.eF]; have := HX.out.fl; omega) ((HO.out.below HK2.out.2.2).mono HK2.out.2.2.size) HK2.out.1 HK2.out.2.1)
  go_wp2_with fail
  refine HLV.out.mono ?_
  rintro e w3 ⟨rfl, rfl⟩
  go_wp2_with fail
  refine HPT.out.mono ?_
  rintro e w4 ⟨rfl, bel4⟩
  have HK4 := Lib.hid (And.intro (HK2.out.1.below bel4) (And.intro (HK2.out.2.1.go bel4) (HK2.out.2.2.trans (bel4.mono HK2.out.2.2.size))))
  clear bel4 HK2 HLV HPT
  go_wp2_with fail
  go_loopw [9] (fun i wx => ∃ k : Nat, k ≤ ns.length ∧ i = .int .i64 (k : Nat) ∧ wx = w4) (fun i _ => ns.length - (intOf i).toNat)
  case atStart => exact ⟨0, Nat.zero_le _, by first | exact trivial | rfl, by first | exact trivial | rfl⟩
  case round =>
    obtain ⟨i, hi, rfl, hwr⟩ := hrel
    subst hwr
    by_cases hlt : i < ns.length
    · obtain ⟨d, hd⟩ : ∃ e, ns[i]? = some e := ⟨_, List.getElem?_eq_getElem hlt⟩
      obtain ⟨b, off, ka, va, ba, rfl, h1, h3, _, q1, _, _, n1, _, _⟩ := HK4.out.1.at_ hd
      obtain ⟨Ak, ck, rfl⟩ := n1.form
      have hk63 := (HX.out.keys i d hd).1
      have d0 : decide (63 < (d.keys.length : Int)) = false := decide_eq_false (by omega)
      clear hd n1
      go_wp2_with fail
      exact ⟨⟨i + 1, by omega, by go_num, by first | exact trivial | rfl⟩, by simp [intOf]; omega⟩
    · have : i = ns.length := by omega
      subst this
      have HHD := Lib.hid (show Calls Try.prog 15 #[.slice An ns.length cn, .slice A2 ns.length c2, .int .i64 0] wr (HdPost wr F) by
        have := held_calls (r := rankOf xs) ns hns (.slice An ns.length cn) (.slice A2 ns.length c2) h t 0 wr HX.out.wf HX.out.st HK4.out.1 HK4.out.2.1 (by rw [← HX.out.eF]; have := HX.out.fl; omega)
        rw [← HX.out.eF] at this
        exact this)
      go_wp2_with fail
      refine HHD.out.mono ?_
      rintro e w5 ⟨kv, vv, bv, rfl, n1, n2, n3, bel5⟩
      have f1 := n1.form
      have f2 := n2.form
      have f3 := n3.form
      rw [List.length_map] at f1 f2 f3
      obtain ⟨Ak, ck, rfl⟩ := f1
      obtain ⟨Av, cv, rfl⟩ := f2
      obtain ⟨Ab, cb, rfl⟩ := f3
      have HH := Lib.hid (And.intro n1 (And.intro n2 (And.intro n3 (HK4.out.2.2.trans (bel5.mono HK4.out.2.2.size)))))
      have HRW := Lib.hid (HR.out w5 ((HO.out.below HH.out.2.2.2).mono HH.out.2.2.2.size) ((HA.out.below HH.out.2.2.2).mono HH.out.2.2.2.size) (by omega))
      clear n1 n2 n3 bel5 HHD HK4 HR
      go_wp2_with fail
      refine HRW.out.mono ?_
      rintro e w6 ⟨kw, vw, ow, rfl, t6, bel6⟩
      obtain ⟨Kw, ckw, Vw, cvw, rfl, rfl⟩ := t6.forms
      have b7 : Below w6.heap.size w6 (w6.alloc (Obj.cells #[.slice Kw (List.length M) ckw, .slice Vw (List.length M) cvw] 42)) := (Below.refl _ _).alloc (Nat.le_refl _) _
      have b67 := bel6.trans (b7.mono bel6.size)
      have HL := Lib.hid (And.intro (show LastI _ w6.heap.size (.slice Kw (List.length M) ckw) (.slice Vw (List.length M) cvw) M F (.slice Ak F.length ck) (.slice Av F.length cv) (.slice Ab F.length cb) xs (.slice A xs.length c) from
        ⟨Blk.new w6 _ _, t6.below b7, HH.out.1.below b67, HH.out.2.1.below b67, HH.out.2.2.1.below b67, (HO.out.below (HH.out.2.2.2.trans (b67.mono HH.out.2.2.2.size))).mono (HH.out.2.2.2.trans (b67.mono HH.out.2.2.2.size)).size⟩) (HH.out.2.2.2.trans (b67.mono HH.out.2.2.2.size)))
      clear t6 bel6 b7 b67 HH HRW
      go_upto_region 14 with (fail)
      generalize w6.alloc (Obj.cells #[.slice Kw (List.length M) ckw, .slice Vw (List.length M) cvw] 42) = W at *
      generalize w6.heap.size = pW at *
      go_wp2_with fail
      go_loopw [16, 17] (fun n i wx => ∃ k : Nat, k ≤ F.length ∧ i = .int .i64 (k : Nat) ∧ n = .int .i64 ((live (F.take k)).length : Nat) ∧ Hid (∃ m, wx = W.drewN m)) (fun _ i _ => F.length - (intOf i).toNat)
      case atStart => exact ⟨0, Nat.zero_le _, rfl, rfl, Lib.hid ⟨0, rfl⟩⟩
      case round =>
        obtain ⟨i, hi, rfl, rfl, HD⟩ := hrel
        have hLr : LastI wr pW (.slice Kw M.length ckw) (.slice Vw M.length cvw) M F (.slice Ak F.length ck) (.slice Av F.length cv) (.slice Ab F.length cb) xs (.slice A xs.length c) := by
          obtain ⟨m, rfl⟩ := HD.out
          exact HL.out.1.drewN m
        have HLr := Lib.hid hLr
        have hlv := live_le F i
        have w0 := hLr.blk.cell 0
        have w1 := hLr.blk.cell 1
        have wl := hLr.blk.lt
        have hFl := HX.out.fl
        have hll := LikeR.len HX.out.like
        clear hLr
        by_cases hlt : i < F.length
        · obtain ⟨e, he⟩ : ∃ e, F[i]? = some e := ⟨_, List.getElem?_eq_getElem hlt⟩
          obtain ⟨bk, ok, rfl, k1, k3, k4⟩ := HLr.out.k.get he
          obtain ⟨bb, ob, rfl, t1, t3, t4⟩ := HLr.out.b.at_ (i := i) (x := e.2.2) (by rw [List.getElem?_map, he]; rfl)
          rw [List.length_map] at t1
          have HRK := Lib.hid (fun a n => (specRank_calls xs _ _ a (wr.drewN n) (HLr.out.o.drewN n)).mono (fun _ _ h => (⟨h.1, n, h.2.symm⟩ : _ ∧ ∃ j, _ = wr.drewN j)))
          have HE := Lib.hid he
          obtain ⟨X, hX⟩ : ∃ x, x = e.1 := ⟨_, rfl⟩
          rw [← hX] at k4
          clear he hll
          go_upto_region 18 with (fail)
          go_cut [112] (fun s wx => s = .bool false ∧ Hid (∃ n, wx = wr.drewN n))
          case first =>
            clear w0 w1 t4
            by_cases hi0 : i = 0
            · subst hi0
              go_wp2_with fail
              go_quiet (fail)
              go_wp2_with fail
              go_meet
              exact ⟨rfl, _, rfl⟩
            · obtain ⟨e', he'⟩ : ∃ e, F[i - 1]? = some e := ⟨_, List.getElem?_eq_getElem (by omega)⟩
              obtain ⟨bk', ok', hbo, _, _, k4'⟩ := HLr.out.k.get he'
              obtain ⟨rfl, rfl⟩ : bk = bk' ∧ ok = ok' := by simpa using hbo
              have hri := List.pairwise_iff_getElem.1 HX.out.rise (i - 1) i (List.getElem?_eq_some_iff.1 he').1 hlt (by omega)
              rw [(List.getElem?_eq_some_iff.1 he').2, (List.getElem?_eq_some_iff.1 HE.out).2, ← hX] at hri
              generalize e'.1 = Y at *
              have dg : decide (rankOf xs Y ≥ rankOf xs X) = false := decide_eq_false (by omega)
              have dg2 : decide (rankOf xs X ≤ rankOf xs Y) = false := decide_eq_false (by omega)
              have dk : decide ((i : Int) > 0) = true := decide_eq_true (by omega)
              have dk2 : decide (0 < (i : Int)) = true := decide_eq_true (by omega)
              have dk3 : decide (0 < i) = true := decide_eq_true (by omega)
              have wk : IntKind.i64.wrap ((i : Int) - 1) = (i : Int) - 1 := IntWalk.i64_in _ (by omega)
              have p0 : (0 : Int) ≤ (i : Int) - 1 := by omega
              have p1 : (i : Int) - 1 < (F.length : Int) := by omega
              have p2 : ((i : Int) - 1).toNat = i - 1 := by omega
              clear hbo he' hri hX
              go_wp2_with fail
              go_quiet ((go_at_call 17; exact HRK.out _ _))
              go_wp2_with fail
              go_meet
              exact ⟨rfl, _, rfl⟩
          case rest =>
            obtain ⟨rfl, HN⟩ := hcut
            obtain ⟨V, hV⟩ : ∃ V, V = wc := ⟨_, rfl⟩
            subst hV
            have hLV : LastI V pW (.slice Kw M.length ckw) (.slice Vw M.length cvw) M F (.slice (some ⟨bk, ok, none⟩) F.length ck) (.slice Av F.length cv) (.slice (some ⟨bb, ob, none⟩) F.length cb) xs (.slice A xs.length c) := by
              obtain ⟨m, rfl⟩ := HN.out
              exact HLr.out.drewN m
            have HWV := Lib.hid (show ∃ m, V = W.drewN m by
              obtain ⟨m, rfl⟩ := HN.out
              obtain ⟨m', rfl⟩ := HD.out
              exact ⟨_, World.drewN_drewN _ _ _⟩)
            obtain ⟨_, _, hbo, _, z3, z4⟩ := hLV.k.get HE.out
            obtain ⟨rfl, rfl⟩ : bk = _ ∧ ok = _ := by simpa using hbo
            obtain ⟨_, _, hbo2, _, t3', t4'⟩ := hLV.b.at_ (i := i) (x := e.2.2) (by rw [List.getElem?_map, HE.out]; rfl)
            obtain ⟨rfl, rfl⟩ : bb = _ ∧ ob = _ := by simpa using hbo2
            have v0 := hLV.blk.cell 0
            have v1 := hLV.blk.cell 1
            have vl := hLV.blk.lt
            have HLV := Lib.hid hLV
            have hstep := live_step HE.out
            rw [← hX] at z4
            clear hbo hbo2 hLV w0 w1 wl t3 t4 k3 k4 HLr HRK HD HN
            cases hv : e.2.2 with
            | false =>
              rw [hv] at t4' hstep
              clear hX
              go_wp2_with fail
              exact ⟨⟨i + 1, by omega, by go_num, by rw [hstep]; rfl, HWV⟩, by simp [intOf]; omega⟩
            | true =>
              rw [hv] at t4' hstep
              obtain ⟨y, hy, hy1, hy2⟩ := Kp.LikeR.at_ HX.out.like (live_at HE.out hv)
              generalize hn : (live (F.take i)).length = n at *
              have hnl := (List.getElem?_eq_some_iff.1 hy).1
              obtain ⟨bw, ow', rfl, _, s3, s4⟩ := HLV.out.t.ks.get hy
              obtain ⟨bx, ox, rfl, _, r3, r4⟩ := HLV.out.t.vs.get hy
              obtain ⟨bv, ov', rfl, _, u3, u4⟩ := HLV.out.v.get HE.out
              simp only at hy1 hy2
              rw [← hX] at hy1
              rw [← hy2] at r4
              have HAL := Lib.hid (fun a b n => (alike_calls xs _ _ a b (V.drewN n) (HLV.out.o.drewN n)).mono (fun _ _ h => (⟨h.1, n, h.2.symm⟩ : _ ∧ ∃ j, _ = V.drewN j)))
              generalize y.1 = Y at *
              generalize e.2.1 = Z at *
              have hal : (rankOf xs X == rankOf xs Y) = true := by rw [hy1]; simp
              have p0 : (0 : Int) ≤ (n : Int) := by omega
              have p1 : (n : Int) < (M.length : Int) := by omega
              have p2 : decide ((M.length : Int) ≤ (n : Int)) = false := decide_eq_false (by omega)
              have p3 : decide (M.length ≤ n) = false := decide_eq_false (by omega)
              clear hy hy1 hy2 hX hv
              go_upto_region 21 with (fail)
              go_cut [148] (fun s wx => s = .bool false ∧ Hid (∃ n, wx = V.drewN n))
              case first =>
                go_wp2_with fail
                go_quiet ((go_at_call 18; exact HAL.out _ _ _))
                go_wp2_with fail
                go_meet
                exact ⟨by first | rfl | (rw [p3]), _, rfl⟩
              case rest =>
                obtain ⟨rfl, HN⟩ := hcut
                have HWC := Lib.hid (show ∃ m, wc = W.drewN m by
                  obtain ⟨m, rfl⟩ := HN.out
                  obtain ⟨m', rfl⟩ := HWV.out
                  exact ⟨_, World.drewN_drewN _ _ _⟩)
                clear HN
                go_wp2_with fail
                exact ⟨⟨i + 1, by omega, by go_num, by rw [hstep]; go_num, HWC⟩, by simp [intOf]; omega⟩
        · have : i = F.length := by omega
          subst this
          rw [List.take_length] at *
          rw [hll]
          go_wp2_with fail
          go_ret
          obtain ⟨m, rfl⟩ := HD.out
          exact ⟨by simp, HL.out.2.trans (Below.drewN _ _)⟩
end Go.Proofs.Ytjbelfbfhcmgeaa.Kp
