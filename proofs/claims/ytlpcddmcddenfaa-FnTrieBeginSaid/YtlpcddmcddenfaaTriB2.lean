/- spec.Words: Put, Remove. -/
import Derived.Test.YtlpcddmcddenfaaTriB1
namespace Go.Proofs.Ytlpcddmcddenfaa.Kp
open Go.RowKit Tri

theorem step_append_C {α : Type} {s : Nat} {cells : α → List Value} (hs : ∀ a, (cells a).length = s) {P : Program} (w : World) {ops : Array Oper} {o : Oper} {a : Act} {K : Act → World → Prop} {Q : Exit → Act → World → Prop} {E : Prop} (hw : Region.wanted o (yielded ops a.tmps) = true) (sl x : Operand) (t : TypeId)
    (ho : o.op = .call { callee := .builtin .append, args := #[sl, x], argTypes := #[t, t] })
    (base : Nat) (e : TypeId) (i : TypeInfo) (z : Value) (bytes : Nat) (ht : P.underlying t = some (.slice e)) (hi : P.info? e = some i) (hz : i.zero = some z)
    (hsize : i.size = s) (hby : i.bytes = bytes) (hzs : z.cells.size = s) (hsz : 0 < s)
    (v : Value) (n : Nat) (xs : List Value) (hsv : a.eval sl = v) (hown : w.ownsRow base e s v n xs)
    (ar : Value) (l : List α) {B : Nat} (hx : a.eval x = ar) (har : SlC s cells w B ar l) (hnone : ∀ m c, ar = .slice none m c → m = 0 ∧ c = 0) (h1 : ∀ a, ∀ u ∈ cells a, u.oneCell' = true)
    (h63 : n + l.length ≤ maxLen) (hbytes : (n + l.length) * bytes ≤ 140737488355328) (hbase : base ≤ w.heap.size)
    (h : ∀ v' w', w'.ownsRow base e s v' (n + l.length) (xs ++ l.flatMap cells) → w.grownBy w' v.ownBlock → K (a.put o.dst v') w') : if Region.wanted o (yielded ops a.tmps) = true then Oper.wp P o a w K Q else E := by
  rw [if_pos hw]
  obtain ⟨A, c, rfl⟩ := har.form
  cases A with
  | none =>
    obtain ⟨hl, rfl⟩ := hnone _ _ rfl
    have hl := List.length_eq_zero_iff.1 hl
    subst hl
    have hrun := run_append_owned_none (P := P) (w := w) base t o.type e i s ht hi v n xs hown
    unfold Oper.wp
    simp [execOp, ho, resolve, invoke, builtin, hsv, hx, hrun, Result.andThen]
    exact h v w (by simpa using hown) (grown_refl w _)
  | some ad =>
    exact wp_append_own w sl x t ho base e i z s bytes ht hi hz hsize hby hzs hsz v n xs hsv hown ad l.length c _ hx (flat_len hs l) (har.news hs hsz)
      (fun u hu => by obtain ⟨a, _, hu⟩ := List.mem_flatMap.1 hu; exact h1 a u hu) h63 hbytes hbase (fun v' w' h2 h3 _ => h v' w' h2 h3)
/-- a row cut in two. -/
theorem partsN {α : Type} {T : TypeId} {f : α → Value} {W : World} {A : Option Addr} {c k P : Nat} {o : List α} (h : NX T f W (.slice A k c) o) (hk : o.length = k) (hP : P ≤ k) :
    ∃ A1 c1 A2 c2, NX T f W (.slice A1 P c1) (o.take P) ∧ NX T f W (.slice A2 (k - P) c2) (o.drop P) ∧
      ((A = none ∧ c = 0 ∧ A1 = none ∧ c1 = 0 ∧ A2 = none ∧ c2 = 0 ∧ P = 0 ∧ k = 0) ∨ ∃ b off, A = some ⟨b, off, none⟩ ∧ A1 = some ⟨b, off, none⟩ ∧ c1 = c ∧ k ≤ c ∧ c ≤ 9223372036854775807 ∧ ((c = P ∧ A2 = some ⟨b, off, none⟩ ∧ c2 = 0) ∨ (P < c ∧ A2 = some ⟨b, off + P, none⟩ ∧ c2 = c - P))) := by
  subst hk
  rcases h.is with ⟨e, rfl⟩ | ⟨b, off, c', cur, e, h1, h2, h3, h4⟩
  · simp only [Value.slice.injEq] at e
    obtain ⟨rfl, -, rfl⟩ := e
    obtain rfl : P = 0 := by simpa using hP
    exact ⟨none, 0, none, 0, NX.nil _, NX.nil _, .inl ⟨rfl, rfl, rfl, rfl, rfl, rfl, rfl, rfl⟩⟩
  · simp only [Value.slice.injEq] at e
    obtain ⟨rfl, -, rfl⟩ := e
    by_cases hc : c = P
    · subst hc
      refine ⟨_, _, some ⟨b, off, none⟩, 0, h.take hP, ?_, .inr ⟨b, off, rfl, rfl, rfl, h1, h2, .inl ⟨rfl, rfl, rfl⟩⟩⟩
      have := h.drop_all (i := c) (by omega)
      rw [show o.length - c = 0 by omega]
      exact this
    · exact ⟨_, _, some ⟨b, off + P, none⟩, c - P, h.take hP, h.drop hP, .inr ⟨b, off, rfl, rfl, rfl, h1, h2, .inr ⟨by omega, rfl, rfl⟩⟩⟩
/-- what Put and Remove leave. -/
def WPost (w : World) (n : Nat) (e : Ending) (w' : World) : Prop := ∃ kv vv n' ks vs, e = .returned (.agg #[kv, vv]) ∧ WV w' kv vv n' ks vs ∧ n' ≤ n + 1 ∧ Below w.heap.size w w'
theorem WV.fr {w w' : World} {kv vv : Value} {n : Nat} {ks : List Txt} {vs : List Int} {S : List Nat} (h : WV w kv vv n ks vs) (hf : Fr S w w') (hS : ∀ b ∈ S, ∃ cs, Blk w b cs 49) : WV w' kv vv n ks vs :=
  ⟨h.k.keep (keep_fr hf fun b hb => by obtain ⟨cs, h1⟩ := hS b hb; exact ⟨cs, _, h1, by decide⟩), h.v.keep (keep_fr hf fun b hb => by obtain ⟨cs, h1⟩ := hS b hb; exact ⟨cs, _, h1, by decide⟩), h.kl, h.vl, h.fit⟩
/-- the two fields told. -/
theorem words_end {w W : World} {b : Nat} {cs : Array Value} {kv vv : Value} {n n' : Nat} {ks : List Txt} {vs : List Int} (hb : Blk W b cs 49) (hs : cs.size = 2) (hB : Below w.heap.size w W) (hw : w.heap.size ≤ b) (h : WV W kv vv n' ks vs) (hn : n' ≤ n + 1) :
    (((W.setCell ⟨b, 0, none⟩ kv).setCell ⟨b, 1, none⟩ vv).cell? ⟨b, 0, none⟩ = some kv ∧ ((W.setCell ⟨b, 0, none⟩ kv).setCell ⟨b, 1, none⟩ vv).cell? ⟨b, 1, none⟩ = some vv) ∧
    WPost w n (.returned (.agg #[kv, vv])) ((W.setCell ⟨b, 0, none⟩ kv).setCell ⟨b, 1, none⟩ vv) := by
  have hb2 := (hb.set 0 kv).set 1 vv
  have hf : Fr [b] W ((W.setCell ⟨b, 0, none⟩ kv).setCell ⟨b, 1, none⟩ vv) := (Fr.setCell W b 0 _ (by simp)).comp (Fr.setCell _ b 1 _ (by simp))
  refine ⟨⟨?_, ?_⟩, kv, vv, n', ks, vs, rfl, h.fr hf (fun x hx => by rw [List.mem_singleton] at hx; subst hx; exact ⟨_, hb⟩), hn, hB.trans (hf.below (fun x hx => by rw [List.mem_singleton] at hx; omega) hB.size)⟩
  · rw [hb2.cell 0]; simp [hs]
  · rw [hb2.cell 1]; simp [hs]
set_option maxRecDepth 100000 in
set_option maxHeartbeats 1600000 in
theorem wput_calls (kv vv : Value) (n : Nat) (ks : List Txt) (vs : List Int) (key : Txt) (x : Int) (w : World) (h : WV w kv vv n ks vs) (hn : n ≤ 4294967296) (hk : key.length ≤ 2147483647) :
    Calls Try.prog 34 #[.agg #[kv, vv], str key, .int .i64 x] w (WPost w n) := by
  obtain ⟨i9, hi9, hz9, hs9, hy9⟩ := info_parts infoS
  obtain ⟨Ak, ck, rfl⟩ := h.k.form
  obtain ⟨Av, cv, rfl⟩ := h.v.form
  have hkl := h.kl
  have hvl := h.vl
  replace h : WV w (.slice Ak n ck) (.slice Av n cv) n ks vs := by have h' := h; rw [hkl, hvl] at h'; exact h'
  rw [hkl, hvl]
  obtain ⟨W, hW⟩ : ∃ W, W = (w.alloc (.cells #[.slice Ak n ck, .slice Av n cv] 49)).alloc (.cells #[.slice none 0 0, .slice none 0 0] 49) := ⟨_, rfl⟩
  have hb : Below w.heap.size w W := by rw [hW]; exact ((Below.refl _ w).alloc (Nat.le_refl _) _).alloc (by simp) _
  have hx3 : Blk W w.heap.size #[.slice Ak n ck, .slice Av n cv] 49 := by rw [hW]; exact (Blk.new _ _ _).alloc _
  have hx6 : Blk W (w.heap.size + 1) #[.slice none 0 0, .slice none 0 0] 49 := by
    rw [hW]
    have := Blk.new (w.alloc (.cells #[.slice Ak n ck, .slice Av n cv] 49)) #[.slice none 0 0, .slice none 0 0] 49
    rwa [show (w.alloc (.cells #[.slice Ak n ck, .slice Av n cv] 49)).heap.size = w.heap.size + 1 by simp] at this
  have HA := Lib.hid (at_calls _ _ n ks vs key W (h.below hb) hn)
  have HH := Lib.hid (And.intro h (And.intro hb (And.intro hx3 hx6)))
  have HW := Lib.hid hW
  have c0 := hx3.cell 0
  have c1 := hx3.cell 1
  simp only [List.getElem?_toArray] at c0 c1
  have hb0 := hx6.lt
  have HV := Lib.hid (And.intro hkl hvl)
  clear h hb hx3 hx6 hW hkl hvl
  go_enter Try.func34, Try.ntmps34
  go_upto_region 1 with (fail)
  change Code.wp _ _ _ _ ((w.alloc (.cells #[.slice Ak n ck, .slice Av n cv] 49)).alloc (.cells #[.slice none 0 0, .slice none 0 0] 49))
  rw [← HW.out]
  go_wp2_with fail
  refine HA.out.mono ?_
  rintro e w1 ⟨i, bv, rfl, hi, hbv, b1⟩
  have hB := HH.out.2.1.trans (b1.mono HH.out.2.1.size)
  have y3 := HH.out.2.2.1.below b1 HH.out.2.2.1.lt
  have y6 := HH.out.2.2.2.below b1 HH.out.2.2.2.lt
  have d0 := y3.cell 0
  have d1 := y3.cell 1
  have f0 := y6.cell 0
  have f1 := y6.cell 1
  have ff := y6.frozen
  simp only [List.getElem?_toArray] at d0 d1 f0 f1
  have HY := Lib.hid (And.intro hB (And.intro y3 (And.intro y6 (HH.out.1.below hB))))
  have hb6 := y6.lt
  have hb3l := y3.lt
  clear hB y3 y6 b1 c0 c1 HA HW HH hb0
  by_cases hkey : key = []
  · have hk1 : key.isEmpty = true := by rw [hkey]; rfl
    clear hkey
    go_wp2_with fail
    obtain ⟨⟨z0, z1⟩, hP⟩ := words_end (n := n) HY.out.2.2.1 rfl HY.out.1 (by omega) HY.out.2.2.2 (by omega)
    refine bodyPost_ret (v := .agg #[.slice Ak n ck, .slice Av n cv]) (by simp [results, Try.results34, go_sem, z0, z1]) rfl hP
  · have hk1 : key.isEmpty = false := by cases key with
      | nil => exact absurd rfl hkey
      | cons a k => rfl
    clear hkey
    rcases hbv with rfl | ⟨rfl, hi2⟩
    · have HD := Lib.hid (fun (w' : World) (hb : Below w1.heap.size w1 w') => sput_calls vs _ i x w' (HY.out.2.2.2.v.below hb) (by have := HY.out.2.2.2.vl; omega) (by have := HY.out.2.2.2.vl; omega))
      have hlp : (vs.take i ++ [x] ++ vs.drop i).length = n + 1 := by have := HY.out.2.2.2.vl; rw [List.length_append, List.length_append, List.length_take, List.length_drop, List.length_singleton]; omega
      have hlk : (ks.take i ++ [key] ++ ks.drop i).length = n + 1 := by have := HY.out.2.2.2.kl; rw [List.length_append, List.length_append, List.length_take, List.length_drop, List.length_singleton]; omega
      have hfk : ∀ y ∈ ks.take i ++ [key] ++ ks.drop i, y.length ≤ 2147483647 := fun y hy => by
        rcases List.mem_append.1 hy with hy | hy
        · rcases List.mem_append.1 hy with hy | hy
          · exact HY.out.2.2.2.fit y (List.mem_of_mem_take hy)
          · rw [List.mem_singleton.1 hy]; exact hk
        · exact HY.out.2.2.2.fit y (List.mem_of_mem_drop hy)
      obtain ⟨m1, hm1⟩ : ∃ m1, m1 = n + 1 := ⟨_, rfl⟩
      rw [← hm1] at hlp hlk
      have HM1 := Lib.hid (Nat.le_of_eq hm1)
      have HM2 := Lib.hid hm1
      clear hm1
      have hmap : (ks.take i ++ [key] ++ ks.drop i).map str = (ks.take i).map str ++ [str key] ++ (ks.drop i).map str := by simp
      have HT := Lib.hid (show (ks.take i).length = i by have := HY.out.2.2.2.kl; rw [List.length_take]; omega)
      have HDL := Lib.hid (show (ks.drop i).length = n - i by have := HY.out.2.2.2.kl; rw [List.length_drop]; omega)
      obtain ⟨A1, c1, A2, c2, p1, p2, hw⟩ := partsN HY.out.2.2.2.k HY.out.2.2.2.kl hi
      have P1 := Lib.hid p1.sl
      have P2 := Lib.hid p2.sl
      have N1 := Lib.hid p1.hnone
      have N2 := Lib.hid p2.hnone
      have O1 := Lib.hid (own_mt w1 w1.heap.size (Nat.le_refl _) 9 1)
      have B0 := Lib.hid ((Below.refl w1.heap.size w1).alloc (Nat.le_refl _) (.cells #[] 9))
      have HM := Lib.hid hmap
      clear p1 p2 hmap
      generalize vs.take i ++ [x] ++ vs.drop i = V1 at *
      generalize ks.take i ++ [key] ++ ks.drop i = K1 at *
      generalize ks.take i = t1 at *
      generalize ks.drop i = t2 at *
      rcases hw with ⟨rfl, rfl, rfl, rfl, rfl, rfl, e0, ek⟩ | ⟨gb, go, rfl, rfl, rfl, hoc, hcm, (⟨rfl, rfl, rfl⟩ | ⟨hlt2, rfl, rfl⟩)⟩
      case' inl =>
        subst ek
        subst e0
      case' inr.inl =>
        have hkp : n - c1 = 0 := by omega
        rw [hkp] at P2 N2 HDL
        clear hkp
      case' inr.inr => have hne : ¬ (c1 = i) := by omega
      all_goals
        go_wp2_with (at_builtin; first
          | (refine wpList_append_C (s := 1) (cells := fun x => [str x]) (fun x => one_str x) _ rfl (.tmp 30) (.tmp 34) 29 rfl w1.heap.size 9 i9 _ 16 Try.underlying29 hi9 hz9 hs9 hy9 rfl (by omega) _ 0 [] rfl O1.out _ t1 rfl (P1.out.below B0.out) N1.out (fun x u hu => by rw [List.mem_singleton.1 hu]; rfl) (by unfold maxLen; have := HT.out; omega) (by have := HT.out; omega) B0.out.size ?_
             intro v1 w2 o1 g1
             have HB2 := Lib.hid (B0.out.grown g1 B0.out.size (fun g hg => (O1.out.lt g hg).1))
             have HO1 := Lib.hid o1
             have z1 := HB2.out.size
             clear o1 g1)
          | (refine wpList_append_own _ rfl (.tmp 36) (.tmp 38) 29 rfl w1.heap.size 9 i9 _ 1 16 Try.underlying29 hi9 hz9 hs9 hy9 rfl (by omega) v1 (0 + t1.length) ([] ++ t1.flatMap (fun x => [str x])) rfl (HO1.out.alloc _) ⟨w2.heap.size, 0, none⟩ 1 1 [str key] rfl rfl (kd_news (Blk.new w2 _ _)) (by simp [Value.oneCell']) (by unfold maxLen; have := HT.out; omega) (by have := HT.out; omega) (by simp; omega) ?_
             intro v2 w3 o2 g2 _
             have HB3 := Lib.hid ((HB2.out.alloc z1 _).grown g2 (by simp; omega) (fun g hg => (HO1.out.lt g hg).1))
             have HO2 := Lib.hid o2
             have z2 := HB3.out.size
             clear o2 g2))
        have e0 := (HB3.out.cell (p := ⟨w.heap.size, 0, none⟩) hb3l).trans d0
        have e1 := (HB3.out.cell (p := ⟨w.heap.size, 1, none⟩) hb3l).trans d1
        have HDR := Lib.hid (HB3.out.trans (Below.drewN w3 1))
        go_upto_region 8 with (fail)
        refine wp_region_G (fun w' : World => w'.cell? ⟨w.heap.size, 0, none⟩ = w3.cell? ⟨w.heap.size, 0, none⟩ ∧ w'.cell? ⟨w.heap.size, 1, none⟩ = w3.cell? ⟨w.heap.size, 1, none⟩) (fun _ => false) (by kernel_rfl) ?_
        have hS0 : (fun w' : World => w'.cell? ⟨w.heap.size, 0, none⟩ = w3.cell? ⟨w.heap.size, 0, none⟩ ∧ w'.cell? ⟨w.heap.size, 1, none⟩ = w3.cell? ⟨w.heap.size, 1, none⟩) w3.drew := ⟨rfl, rfl⟩
        refine wpAnyG_take (i := 0) (v := ?_) rfl rfl (by kernel_rfl) (by kernel_rfl) (by kernel_rfl) (by kernel_rfl) (fun _ _ _ h => h) (by rfl) ?_ hS0 ?_
        rotate_left 1
        · intro w' hSw; (try dsimp only at hSw); go_simp; (try with_reducible rfl)
        simp only [Act.put, List.getElem_toArray, List.getElem_cons_succ, List.getElem_cons_zero, List.setIfInBounds_toArray, List.set_cons_zero, List.set_cons_succ]
        refine wpAnyG_take (i := 1) (v := ?_) rfl rfl (by kernel_rfl) (by kernel_rfl) (by kernel_rfl) (by kernel_rfl) (fun _ _ _ h => h) (by rfl) ?_ hS0 ?_
        rotate_left 1
        · intro w' hSw; (try dsimp only at hSw); go_simp; (try with_reducible rfl)
        simp only [Act.put, List.getElem_toArray, List.getElem_cons_succ, List.getElem_cons_zero, List.setIfInBounds_toArray, List.set_cons_zero, List.set_cons_succ]
        refine wpAnyG_take (i := 2) (v := ?_) rfl rfl (by kernel_rfl) (by kernel_rfl) (by kernel_rfl) (by kernel_rfl) (fun _ _ _ h => h) (by rfl) ?_ hS0 ?_
        rotate_left 1
        · intro w' hSw; (try dsimp only at hSw); go_simp; (try with_reducible rfl)
        simp only [Act.put, List.getElem_toArray, List.getElem_cons_succ, List.getElem_cons_zero, List.setIfInBounds_toArray, List.set_cons_zero, List.set_cons_succ]
        refine wpAnyG_take (i := 3) (v := ?_) rfl rfl (by kernel_rfl) (by kernel_rfl) (by kernel_rfl) (by kernel_rfl) (fun _ _ _ h => h) (by rfl) ?_ hS0 ?_
        rotate_left 1
        · intro w' hSw; (try dsimp only at hSw); go_simp; (try with_reducible rfl)
        simp only [Act.put, List.getElem_toArray, List.getElem_cons_succ, List.getElem_cons_zero, List.setIfInBounds_toArray, List.set_cons_zero, List.set_cons_succ]
        refine wpAnyG_take (i := 4) (v := ?_) rfl rfl (by kernel_rfl) (by kernel_rfl) (by kernel_rfl) (by kernel_rfl) (fun _ _ _ h => h) (by rfl) ?_ hS0 ?_
        rotate_left 1
        · intro w' hSw; (try dsimp only at hSw); go_simp; (try with_reducible rfl)
        simp only [Act.put, List.getElem_toArray, List.getElem_cons_succ, List.getElem_cons_zero, List.setIfInBounds_toArray, List.set_cons_zero, List.set_cons_succ]
        refine wpAnyG_take (i := 6) (v := ?_) rfl rfl (by kernel_rfl) (by kernel_rfl) (by kernel_rfl) (by kernel_rfl) (fun _ _ _ h => h) (by rfl) ?_ hS0 ?_
        rotate_left 1
        · intro w' hSw; (try dsimp only at hSw); go_simp; (try with_reducible rfl)
        simp only [Act.put, List.getElem_toArray, List.getElem_cons_succ, List.getElem_cons_zero, List.setIfInBounds_toArray, List.set_cons_zero, List.set_cons_succ]
        refine wpAnyG_take (i := 7) (v := ?_) rfl rfl (by kernel_rfl) (by kernel_rfl) (by kernel_rfl) (by kernel_rfl) (fun _ _ _ h => h) (by rfl) ?_ hS0 ?_
        rotate_left 1
        · intro w' hSw; (try dsimp only at hSw); go_simp; (try with_reducible rfl)
        simp only [Act.put, List.getElem_toArray, List.getElem_cons_succ, List.getElem_cons_zero, List.setIfInBounds_toArray, List.set_cons_zero, List.set_cons_succ]
        refine wpAnyG_take (i := 8) (v := ?_) rfl rfl (by kernel_rfl) (by kernel_rfl) (by kernel_rfl) (by kernel_rfl) (fun _ _ _ h => h) (by rfl) ?_ hS0 ?_
        rotate_left 1
        · intro w' hSw; (try dsimp only at hSw); go_simp; (try with_reducible rfl)
        simp only [Act.put, List.getElem_toArray, List.getElem_cons_succ, List.getElem_cons_zero, List.setIfInBounds_toArray, List.set_cons_zero, List.set_cons_succ]
        refine wpAnyG_take (i := 9) (v := ?_) rfl rfl (by kernel_rfl) (by kernel_rfl) (by kernel_rfl) (by kernel_rfl) (fun _ _ _ h => h) (by rfl) ?_ hS0 ?_
        rotate_left 1
        · intro w' hSw; (try dsimp only at hSw); go_simp; (try with_reducible rfl)
        simp only [Act.put, List.getElem_toArray, List.getElem_cons_succ, List.getElem_cons_zero, List.setIfInBounds_toArray, List.set_cons_zero, List.set_cons_succ]
        refine wpAnyG_ready (rs := [5]) (by kernel_rfl) (by simp) (AllReadyG.cons rfl (fun K5 hK5 => ?_) AllReadyG.nil)
        refine step_append_C (s := 1) (cells := fun x => [str x]) (fun x => one_str x) _ (by rfl) (.tmp 40) (.tmp 44) 29 rfl w1.heap.size 9 i9 _ 16 Try.underlying29 hi9 hz9 hs9 hy9 rfl (by omega) v2 (0 + t1.length + 1) ([] ++ t1.flatMap (fun x => [str x]) ++ [str key]) (by rfl) HO2.out.drew _ t2 (by rfl) (P2.out.below HDR.out) N2.out (fun x u hu => by rw [List.mem_singleton.1 hu]; rfl) (by unfold maxLen; have := HT.out; have := HDL.out; omega) (by have := HT.out; have := HDL.out; omega) z2 ?_
        intro v3 w4 o3 g3
        have HB4 := Lib.hid (HDR.out.grown g3 z2 (fun g hg => (HO2.out.lt g hg).1))
        have e2 := (HB4.out.cell (p := ⟨w.heap.size, 0, none⟩) hb3l).trans d0
        have e3 := (HB4.out.cell (p := ⟨w.heap.size, 1, none⟩) hb3l).trans d1
        rw [flat_str, flat_str, List.nil_append, ← HM.out] at o3
        have hlen3 : K1.length = 0 + t1.length + 1 + t2.length := by rw [hlk, HM2.out]; have := HT.out; have := HDL.out; omega
        have HN3 := Lib.hid (own_NX (f := str) hlen3 o3)
        clear o3 g3
        refine hK5.out _ _ (fun _ => ⟨e2.trans e0.symm, e3.trans e1.symm⟩) ?_
        simp only [Act.put, List.getElem_toArray, List.getElem_cons_succ, List.getElem_cons_zero, List.setIfInBounds_toArray, List.set_cons_zero, List.set_cons_succ]
        refine wpAnyG_ready (rs := [10]) (by kernel_rfl) (by simp) (AllReadyG.cons rfl (fun K10 hK10 => ?_) AllReadyG.nil)
        refine step_callw (by rfl) _ _ (by go_simp) ((HD.out w4 HB4.out).mono ?_)
        rintro e w5 ⟨v5, rfl, o5, b5⟩
        refine ⟨_, rfl, ?_⟩
        have hB5 := HB4.out.trans (b5.mono HB4.out.size)
        have e4 := (hB5.cell (p := ⟨w.heap.size, 0, none⟩) hb3l).trans d0
        have e5 := (hB5.cell (p := ⟨w.heap.size, 1, none⟩) hb3l).trans d1
        have y6 := HY.out.2.2.1.below hB5 hb6
        have g0 := y6.cell 0
        have g1 := y6.cell 1
        have gf := y6.frozen
        simp only [List.getElem?_toArray] at g0 g1
        have hN5 := own_NX (f := i64v) rfl o5
        have hK5' := HN3.out.below b5
        obtain ⟨A5, c5, e5'⟩ := hN5.form
        obtain ⟨A6, c6, e6'⟩ := hK5'.form
        rw [hlp] at e5'
        rw [hlk] at e6'
        subst e5'
        subst e6'
        have HW5 := Lib.hid (WV.mk (n := _) hK5' hN5 hlk hlp hfk)
        have HB5 := Lib.hid (And.intro hB5 y6)
        clear o5 b5 hB5 hN5 hK5' y6
        refine hK10.out _ _ (fun _ => ⟨e4.trans e0.symm, e5.trans e1.symm⟩) ?_
        simp only [Act.put, List.getElem_toArray, List.getElem_cons_succ, List.getElem_cons_zero, List.setIfInBounds_toArray, List.set_cons_zero, List.set_cons_succ]
        refine wpAnyG_ready (rs := [11]) (by kernel_rfl) (by simp) (AllReadyG.cons rfl (fun K11 hK11 => ?_) AllReadyG.nil)
        go_simp
        refine hK11.out _ _ (fun _ => ⟨e4.trans e0.symm, e5.trans e1.symm⟩) ?_
        (try simp only [Act.put, List.getElem_toArray, List.getElem_cons_succ, List.getElem_cons_zero, List.setIfInBounds_toArray, List.set_cons_zero, List.set_cons_succ])
        refine wpAnyG_ready (rs := [12]) (by kernel_rfl) (by simp) (AllReadyG.cons rfl (fun K12 hK12 => ?_) AllReadyG.nil)
        go_simp
        obtain ⟨⟨z0, z1⟩, hP⟩ := words_end (n := _) HB5.out.2 rfl (HY.out.1.trans (HB5.out.1.mono HY.out.1.size)) (by omega) HW5.out HM1.out
        have r0 := (Fr.setCell (S := [w.heap.size + 1]) w5 (w.heap.size + 1) 0 (.slice A6 m1 c6) (by simp)).comp (Fr.setCell _ (w.heap.size + 1) 1 (.slice A5 m1 c5) (by simp))
        refine hK12.out _ _ (fun _ => ⟨(r0.cell e4 (by simp)).trans e0.symm, (r0.cell e5 (by simp)).trans e1.symm⟩) ?_
        refine wpAnyG_done (by kernel_rfl) ?_ _
        clear r0
        go_wp2_with fail
        refine bodyPost_ret (v := .agg #[.slice A6 m1 c6, .slice A5 m1 c5]) (by simp [results, Try.results34, go_sem, z0, z1]) rfl hP
    · have HC := Lib.hid (fun (w' : World) (hb : Below w1.heap.size w1 w') => scut_calls vs _ i w' (HY.out.2.2.2.v.below hb) (by have := HY.out.2.2.2.vl; omega) (by have := HY.out.2.2.2.vl; omega))
      have hlc : (vs.take i ++ vs.drop (i + 1)).length = n - 1 := by have := HY.out.2.2.2.vl; rw [List.length_append, List.length_take, List.length_drop]; omega
      have hlp : ((vs.take i ++ vs.drop (i + 1)).take i ++ [x] ++ (vs.take i ++ vs.drop (i + 1)).drop i).length = n := by simp only [List.length_append, List.length_take, List.length_drop, List.length_singleton] at hlc ⊢; omega
      have HD := Lib.hid (fun (w' : World) v' (hb : NXI w' v' (vs.take i ++ vs.drop (i + 1))) => sput_calls (vs.take i ++ vs.drop (i + 1)) v' i x w' hb (by omega) (by omega))
      generalize (vs.take i ++ vs.drop (i + 1)).take i ++ [x] ++ (vs.take i ++ vs.drop (i + 1)).drop i = V2 at *
      generalize vs.take i ++ vs.drop (i + 1) = V1 at *
      go_wp2_with fail
      refine wp_region_G (fun w' => w'.cell? ⟨w.heap.size, 0, none⟩ = some (.slice Ak n ck) ∧ w'.cell? ⟨w.heap.size, 1, none⟩ = some (.slice Av n cv)) (fun _ => false) (by kernel_rfl) ?_
      have hS0 : (fun w' => w'.cell? ⟨w.heap.size, 0, none⟩ = some (.slice Ak n ck) ∧ w'.cell? ⟨w.heap.size, 1, none⟩ = some (.slice Av n cv)) w1.drew := ⟨d0, d1⟩
      have HDR := Lib.hid (show Below w1.heap.size w1 w1.drew from Below.drewN w1 1)
      refine wpAnyG_take (i := 0) (v := ?_) rfl rfl (by kernel_rfl) (by kernel_rfl) (by kernel_rfl) (by kernel_rfl) (fun _ _ _ h => h) (by rfl) ?_ hS0 ?_
      rotate_left 1
      · intro w' hSw; (try dsimp only at hSw); go_simp; (try with_reducible rfl)
      simp only [Act.put, List.getElem_toArray, List.getElem_cons_succ, List.getElem_cons_zero, List.setIfInBounds_toArray, List.set_cons_zero, List.set_cons_succ]
      refine wpAnyG_take (i := 1) (v := ?_) rfl rfl (by kernel_rfl) (by kernel_rfl) (by kernel_rfl) (by kernel_rfl) (fun _ _ _ h => h) (by rfl) ?_ hS0 ?_
      rotate_left 1
      · intro w' hSw; (try dsimp only at hSw); go_simp; (try with_reducible rfl)
      simp only [Act.put, List.getElem_toArray, List.getElem_cons_succ, List.getElem_cons_zero, List.setIfInBounds_toArray, List.set_cons_zero, List.set_cons_succ]
      refine wpAnyG_take (i := 2) (v := ?_) rfl rfl (by kernel_rfl) (by kernel_rfl) (by kernel_rfl) (by kernel_rfl) (fun _ _ _ h => h) (by rfl) ?_ hS0 ?_
      rotate_left 1
      · intro w' hSw; (try dsimp only at hSw); go_simp; (try with_reducible rfl)
      simp only [Act.put, List.getElem_toArray, List.getElem_cons_succ, List.getElem_cons_zero, List.setIfInBounds_toArray, List.set_cons_zero, List.set_cons_succ]
      refine wpAnyG_take (i := 3) (v := ?_) rfl rfl (by kernel_rfl) (by kernel_rfl) (by kernel_rfl) (by kernel_rfl) (fun _ _ _ h => h) (by rfl) ?_ hS0 ?_
      rotate_left 1
      · intro w' hSw; (try dsimp only at hSw); go_simp; (try with_reducible rfl)
      simp only [Act.put, List.getElem_toArray, List.getElem_cons_succ, List.getElem_cons_zero, List.setIfInBounds_toArray, List.set_cons_zero, List.set_cons_succ]
      refine wpAnyG_take (i := 4) (v := ?_) rfl rfl (by kernel_rfl) (by kernel_rfl) (by kernel_rfl) (by kernel_rfl) (fun _ _ _ h => h) (by rfl) ?_ hS0 ?_
      rotate_left 1
      · intro w' hSw; (try dsimp only at hSw); go_simp; (try with_reducible rfl)
      simp only [Act.put, List.getElem_toArray, List.getElem_cons_succ, List.getElem_cons_zero, List.setIfInBounds_toArray, List.set_cons_zero, List.set_cons_succ]
      refine wpAnyG_take (i := 6) (v := ?_) rfl rfl (by kernel_rfl) (by kernel_rfl) (by kernel_rfl) (by kernel_rfl) (fun _ _ _ h => h) (by rfl) ?_ hS0 ?_
      rotate_left 1
      · intro w' hSw; (try dsimp only at hSw); go_simp; (try with_reducible rfl)
      simp only [Act.put, List.getElem_toArray, List.getElem_cons_succ, List.getElem_cons_zero, List.setIfInBounds_toArray, List.set_cons_zero, List.set_cons_succ]
      refine wpAnyG_take (i := 7) (v := ?_) rfl rfl (by kernel_rfl) (by kernel_rfl) (by kernel_rfl) (by kernel_rfl) (fun _ _ _ h => h) (by rfl) ?_ hS0 ?_
      rotate_left 1
      · intro w' hSw; (try dsimp only at hSw); go_simp; (try with_reducible rfl)
      simp only [Act.put, List.getElem_toArray, List.getElem_cons_succ, List.getElem_cons_zero, List.setIfInBounds_toArray, List.set_cons_zero, List.set_cons_succ]
      refine wpAnyG_ready (rs := [5]) (by kernel_rfl) (by simp) (AllReadyG.cons rfl (fun K5 hK5 => ?_) AllReadyG.nil)
      refine step_callw (by rfl) 42 #[.slice Av n cv, .int .i64 i] (by go_simp) ((HC.out w1.drew HDR.out).mono ?_)
      rintro e w2 ⟨v2, rfl, o2, b2⟩
      refine ⟨_, rfl, ?_⟩
      have hB2 := HDR.out.trans b2
      have e0 := (hB2.cell (p := ⟨w.heap.size, 0, none⟩) hb3l).trans d0
      have e1 := (hB2.cell (p := ⟨w.heap.size, 1, none⟩) hb3l).trans d1
      have HB2 := Lib.hid hB2
      have HN2 := Lib.hid (own_NX (f := i64v) rfl o2)
      clear o2 b2 hB2
      refine hK5.out _ _ (fun _ => ⟨e0, e1⟩) ?_
      simp only [Act.put, List.getElem_toArray, List.getElem_cons_succ, List.getElem_cons_zero, List.setIfInBounds_toArray, List.set_cons_zero, List.set_cons_succ]
      refine wpAnyG_ready (rs := [8]) (by kernel_rfl) (by simp) (AllReadyG.cons rfl (fun K8 hK8 => ?_) AllReadyG.nil)
      refine step_callw (by rfl) 41 #[v2, .int .i64 i, .int .i64 x] (by go_simp) ((HD.out w2 v2 HN2.out).mono ?_)
      rintro e w3 ⟨v3, rfl, o3, b3'⟩
      refine ⟨_, rfl, ?_⟩
      have hB3 := HB2.out.trans (b3'.mono HB2.out.size)
      have e0 := (hB3.cell (p := ⟨w.heap.size, 0, none⟩) hb3l).trans d0
      have e1 := (hB3.cell (p := ⟨w.heap.size, 1, none⟩) hb3l).trans d1
      have y6 := HY.out.2.2.1.below hB3 hb6
      have g0 := y6.cell 0
      have g1 := y6.cell 1
      have gf := y6.frozen
      simp only [List.getElem?_toArray] at g0 g1
      have hN3 := own_NX (f := i64v) rfl o3
      obtain ⟨A3, c3, e3⟩ := hN3.form
      rw [hlp] at e3
      subst e3
      have HW3 := Lib.hid (show WV w3 (.slice Ak n ck) (.slice A3 n c3) n ks V2 from ⟨(HY.out.2.2.2.below hB3).k, hN3, HY.out.2.2.2.kl, hlp, HY.out.2.2.2.fit⟩)
      have HB3' := Lib.hid (And.intro hB3 y6)
      clear o3 b3' hB3 hN3 y6
      refine hK8.out _ _ (fun _ => ⟨e0, e1⟩) ?_
      simp only [Act.put, List.getElem_toArray, List.getElem_cons_succ, List.getElem_cons_zero, List.setIfInBounds_toArray, List.set_cons_zero, List.set_cons_succ]
      refine wpAnyG_ready (rs := [9]) (by kernel_rfl) (by simp) (AllReadyG.cons rfl (fun K9 hK9 => ?_) AllReadyG.nil)
      go_simp
      refine hK9.out _ _ (fun _ => ⟨e0, e1⟩) ?_
      (try simp only [Act.put, List.getElem_toArray, List.getElem_cons_succ, List.getElem_cons_zero, List.setIfInBounds_toArray, List.set_cons_zero, List.set_cons_succ])
      refine wpAnyG_ready (rs := [10]) (by kernel_rfl) (by simp) (AllReadyG.cons rfl (fun K10 hK10 => ?_) AllReadyG.nil)
      go_simp
      obtain ⟨⟨z0, z1⟩, hP⟩ := words_end (n := n) HB3'.out.2 rfl (HY.out.1.trans (HB3'.out.1.mono HY.out.1.size)) (by omega) HW3.out (by omega)
      have r0 := (Fr.setCell (S := [w.heap.size + 1]) w3 (w.heap.size + 1) 0 (.slice Ak n ck) (by simp)).comp (Fr.setCell _ (w.heap.size + 1) 1 (.slice A3 n c3) (by simp))
      refine hK10.out _ _ (fun _ => ⟨r0.cell e0 (by simp), r0.cell e1 (by simp)⟩) ?_
      refine wpAnyG_done (by kernel_rfl) ?_ _
      clear r0
      go_wp2_with fail
      refine bodyPost_ret (v := .agg #[.slice Ak n ck, .slice A3 n c3]) (by simp [results, Try.results34, go_sem, z0, z1]) rfl hP
end Go.Proofs.Ytlpcddmcddenfaa.Kp
