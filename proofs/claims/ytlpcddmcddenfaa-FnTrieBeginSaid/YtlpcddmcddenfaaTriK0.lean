/- spec.Rising, spec.SameWords. -/
import Derived.Test.YtlpcddmcddenfaaTriZ
import Derived.WalkLawsBesides
namespace Go.Proofs.Ytlpcddmcddenfaa.Tri
def gtT (a b : Txt) : Bool := !Op.bytesLess a b && !(a == b)
/-- where a text is put in. -/
def posT (out : List Txt) (x : Txt) : Nat → Nat
  | 0 => 0
  | k + 1 => if gtT (out.getD k []) x then posT out x k else k + 1
theorem posT_le (out : List Txt) (x : Txt) : ∀ k, posT out x k ≤ k
  | 0 => Nat.le_refl _
  | k + 1 => by
    unfold posT
    split
    · exact Nat.le_succ_of_le (posT_le out x k)
    · exact Nat.le_refl _
def insT (out : List Txt) (x : Txt) : List Txt := out.take (posT out x out.length) ++ x :: out.drop (posT out x out.length)
def risT (l : List Txt) : List Txt := l.foldl insT []
theorem risT_snoc (l : List Txt) (x : Txt) : risT (l ++ [x]) = insT (risT l) x := by unfold risT; rw [List.foldl_append]; rfl
theorem insT_len (out : List Txt) (x : Txt) : (insT out x).length = out.length + 1 := by
  have := posT_le out x out.length
  unfold insT
  rw [List.length_append, List.length_cons, List.length_take, List.length_drop]; omega
theorem risT_len (l : List Txt) : (risT l).length = l.length := by
  have : ∀ (l : List Txt) (o : List Txt), (l.foldl insT o).length = o.length + l.length := by
    intro l
    induction l with
    | nil => intro o; rfl
    | cons x l ih => intro o; rw [List.foldl_cons, ih, insT_len, List.length_cons]; omega
  have h := this l []
  unfold risT; rw [h]; simp
end Go.Proofs.Ytlpcddmcddenfaa.Tri
namespace Go.Proofs.Ytlpcddmcddenfaa.Kp
open Go.RowKit Tri

theorem getD_at {l : List Txt} {i : Nat} (h : i < l.length) : l[i]? = some (l.getD i []) := by rw [List.getD_eq_getElem?_getD, List.getElem?_eq_getElem h]; rfl
theorem own_cap {w : World} {B : Nat} {e : TypeId} {s n c : Nat} {a : Addr} {xs : List Value} (h : w.ownsRow B e s (.slice (some a) n c) n xs) : n ≤ c := by
  rcases h.2 with ⟨e1, _⟩ | ⟨g, cap, cur, e1, h1, h2, h3, _⟩
  · cases e1
  · cases e1; exact h3
/-- at a round's head. -/
structure RH (B : Nat) (w : World) (q : Value) (o : List Txt) (wr : World) : Prop where
  own : wr.ownsRow B 9 1 q o.length (o.map str)
  bel : Below B w wr
theorem RH.drewN {B : Nat} {w : World} {q : Value} {o : List Txt} {wr : World} (h : RH B w q o wr) (n : Nat) : RH B w q o (wr.drewN n) := ⟨h.own, h.bel.trans (Below.drewN _ n)⟩
/-- a row cut in two. -/
theorem partsT {W : World} {A : Option Addr} {c k P : Nat} {o : List Txt} (h : NX 9 str W (.slice A k c) o) (hk : o.length = k) (hs : (A = none ∧ c = 0 ∧ o = []) ∨ ∃ g, A = some ⟨g, 0, none⟩ ∧ k ≤ c ∧ c ≤ 9223372036854775807 ∧ g < W.heap.size) (hP : P ≤ k) :
    ∃ A1 c1 A2 c2, NX 9 str W (.slice A1 P c1) (o.take P) ∧ NX 9 str W (.slice A2 (k - P) c2) (o.drop P) ∧
      ((A = none ∧ c = 0 ∧ A1 = none ∧ c1 = 0 ∧ A2 = none ∧ c2 = 0 ∧ P = 0 ∧ k = 0) ∨ ∃ g, A = some ⟨g, 0, none⟩ ∧ A1 = some ⟨g, 0, none⟩ ∧ c1 = c ∧ k ≤ c ∧ c ≤ 9223372036854775807 ∧ ((c = P ∧ A2 = some ⟨g, 0, none⟩ ∧ c2 = 0) ∨ (P < c ∧ A2 = some ⟨g, P, none⟩ ∧ c2 = c - P))) := by
  subst hk
  rcases hs with ⟨rfl, rfl, rfl⟩ | ⟨g, rfl, h1, h2, h3⟩
  · obtain rfl : P = 0 := by simpa using hP
    exact ⟨none, 0, none, 0, NX.nil _, NX.nil _, .inl ⟨rfl, rfl, rfl, rfl, rfl, rfl, rfl, rfl⟩⟩
  · by_cases hc : c = P
    · subst hc
      refine ⟨_, _, some ⟨g, 0, none⟩, 0, h.take hP, ?_, .inr ⟨g, rfl, rfl, rfl, h1, h2, .inl ⟨rfl, rfl, rfl⟩⟩⟩
      have := h.drop_all (i := c) (by omega)
      rw [show o.length - c = 0 by omega]
      exact this
    · exact ⟨_, _, some ⟨g, P, none⟩, c - P, h.take hP, by have := h.drop hP; simpa using this, .inr ⟨g, rfl, rfl, rfl, h1, h2, .inr ⟨by omega, rfl, rfl⟩⟩⟩
set_option maxRecDepth 100000 in
set_option maxHeartbeats 3200000 in
theorem rising_calls (lv : Value) (l : List Txt) (w : World) (hl : NX 9 str w lv l) (hln : l.length ≤ 4294967296) :
    Calls Try.prog 24 #[lv] w fun e w' => ∃ v', e = .returned v' ∧ w'.ownsRow w.heap.size 9 1 v' l.length ((risT l).map str) ∧ Below w.heap.size w w' := by
  obtain ⟨i9, hi9, hz9, hs9, hy9⟩ := info_parts infoS
  obtain ⟨A3, c3, rfl⟩ := hl.form
  have HL := Lib.hid hl
  have HI := Lib.hid (show RH w.heap.size w (.slice none 0 0) (risT (l.take 0)) w from ⟨World.ownsRow_nil _ _ _ _, Below.refl _ _⟩)
  clear hl
  go_enter Try.func24, Try.ntmps24
  go_wp2_with fail
  go_loopw [3, 4, 5, 6] (fun q i _ _ wr => ∃ k : Nat, k ≤ l.length ∧ i = .int .i64 (k : Nat) ∧ Hid (RH w.heap.size w q (risT (l.take k)) wr)) (fun _ i _ _ _ => l.length - (intOf i).toNat)
  case atStart => exact ⟨0, Nat.zero_le _, rfl, HI⟩
  case round =>
    obtain ⟨k, hk, rfl, HK⟩ := hrel
    by_cases hlt : k < l.length
    · obtain ⟨x, hx⟩ : ∃ x, l[k]? = some x := ⟨_, List.getElem?_eq_getElem hlt⟩
      have hsn : risT (l.take (k + 1)) = insT (risT (l.take k)) x := by rw [List.take_add_one, hx]; exact risT_snoc _ _
      have hol : (risT (l.take k)).length = k := by rw [risT_len, List.length_take]; omega
      obtain ⟨o, ho⟩ : ∃ o, o = risT (l.take k) := ⟨_, rfl⟩
      rw [← ho] at HK hsn hol
      have hrh := HK.out
      have hlw := HL.out.keep (KeepT.below (T := 9) hrh.bel)
      obtain ⟨b, off, rfl, l1, l2, l3, lx⟩ := hlw.at_ hx
      obtain ⟨A, c, rfl⟩ := kd_form hrh.own
      have hon := own_NX (f := str) rfl hrh.own
      have HO := Lib.hid (And.intro hrh hon)
      have HS := Lib.hid hsn
      have hshape : (A = none ∧ c = 0 ∧ o = []) ∨ ∃ g, A = some ⟨g, 0, none⟩ ∧ o.length ≤ c ∧ c ≤ 9223372036854775807 ∧ g < wr.heap.size := by
        rcases hrh.own.2 with ⟨e, h0⟩ | ⟨g, cap, cur, e, h1, h2, h3, h4, h5⟩
        · simp only [Value.slice.injEq] at e
          exact .inl ⟨e.1, e.2.2, List.length_eq_zero_iff.1 h0⟩
        · simp only [Value.slice.injEq] at e
          obtain ⟨rfl, -, rfl⟩ := e
          exact .inr ⟨g, rfl, h3, by unfold maxLen at h4; omega, heap_lt h2⟩
      obtain ⟨P, hP⟩ : ∃ P, P = posT o x o.length := ⟨_, rfl⟩
      have hPl : P ≤ o.length := by rw [hP]; exact posT_le _ _ _
      have hins : insT o x = o.take P ++ x :: o.drop P := by rw [hP]; rfl
      have hread : ∀ j, j < o.length → ∃ g, A = some ⟨g, 0, none⟩ ∧ wr.cell? ⟨g, j, none⟩ = some (str (o.getD j [])) := fun j hj => by
        obtain ⟨g, off, e, _, _, _, hc⟩ := hon.at_ (getD_at hj)
        rcases hshape with ⟨rfl, _, _⟩ | ⟨g', rfl, _, _, _⟩
        · cases e
        · cases e
          exact ⟨_, rfl, by simpa using hc⟩
      have HR := Lib.hid hread
      have HSH := Lib.hid hshape
      have HIN := Lib.hid (And.intro hins (And.intro hsn hP))
      clear hon hsn hlw ho HK hshape hins hread
      rw [hol] at hPl
      clear hP
      simp only [hol]
      obtain ⟨W, hW⟩ : ∃ W, W = wr := ⟨_, rfl⟩
      subst hW
      go_wp2_with fail
      go_loopg [5] k (fun kq v ws => v = .int .i64 (kq : Nat) ∧ kq ≤ k ∧ Hid (posT o x kq = P ∧ ∃ n, ws = W.drewN n))
      case atStart => exact ⟨rfl, Nat.le_refl _, ⟨by rw [HIN.out.2.2, hol], 0, rfl⟩⟩
      case round =>
        obtain ⟨rfl, hq, HQ⟩ := hrel
        obtain ⟨hp, n0, hn0⟩ := HQ.out
        subst hn0
        by_cases hz : gk = 0
        · obtain rfl : P = gk := by rw [hz] at hp ⊢; exact hp.symm
          have hz0 : ¬ (0 : Int) < (P : Int) := by omega
          have hz1 : decide ((0 : Int) < (P : Int)) = false := decide_eq_false hz0
          have hz2 : decide (0 < P) = false := decide_eq_false (by omega)
          obtain ⟨W1, hW1⟩ : ∃ W1, W1 = W.drewN n0 := ⟨_, rfl⟩
          have HW1 := Lib.hid hW1
          rw [← hW1]
          clear hW1 hz
          go_wp2_with fail
          go_quiet (fail)
          clear hz0 hz1 hz2
          obtain ⟨WX, hWX0⟩ : ∃ WX, WX = W1.drewN nq := ⟨_, rfl⟩
          rw [← hWX0]
          have hWX : WX = W.drewN (n0 + nq) := by rw [hWX0, HW1.out]; exact World.drewN_drewN _ _ _
          clear hWX0
          have HWX := Lib.hid (show RH w.heap.size w (.slice A o.length c) o WX by have := HO.out.1.drewN (n0 + nq); rwa [← hWX] at this)
          have hbx := HWX.out.bel.size
          have hpp := partsT (o := o) (k := k) (by have := own_NX (f := str) rfl HWX.out.own; rwa [hol] at this) hol (by have := HSH.out; rw [hol] at this; rw [hWX]; exact this) hPl
          obtain ⟨A1, c1, A2, c2, p1, p2, hw⟩ := hpp
          have P1 := Lib.hid p1.sl
          have P2 := Lib.hid p2.sl
          have N1 := Lib.hid p1.hnone
          have N2 := Lib.hid p2.hnone
          have HT := Lib.hid (show (o.take P).length = P by rw [List.length_take]; omega)
          have HD := Lib.hid (show (o.drop P).length = k - P by rw [List.length_drop]; omega)
          have HIN2 := HIN.out.1
          have HIN3 := Lib.hid (HIN.out.2.1.trans HIN2)
          have O1 := Lib.hid (own_mt WX WX.heap.size (Nat.le_refl _) 9 1)
          have B0 := Lib.hid ((Below.refl WX.heap.size WX).alloc (Nat.le_refl _) (.cells #[] 9))
          have X1 := Lib.hid (show WX.cell? ⟨b, off + k, none⟩ = some (str x) by rw [hWX]; exact lx)
          have hblt : b < WX.heap.size := by rw [hWX]; exact l3
          clear p1 p2 HIN2 HO HSH HR HIN hWX lx
          generalize o.take P = t1 at *
          generalize o.drop P = t2 at *
          rcases hw with ⟨hA0, rfl, rfl, rfl, rfl, rfl, e0, ek⟩ | ⟨g, hA0, rfl, rfl, hoc, hcm, ⟨rfl, rfl, rfl⟩ | ⟨hlt2, rfl, rfl⟩⟩
          case' inl =>
            subst hA0
            subst ek
            subst e0
            have xa : (WX.alloc (Obj.cells #[] 9)).cell? ⟨b, off, none⟩ = some (str x) := (((Below.refl WX.heap.size WX).alloc (Nat.le_refl _) (.cells #[] 9)).cell (p := ⟨b, off, none⟩) hblt).trans X1.out
            have hbz := B0.out.size
            have hl0 : (0 : Int) < (l.length : Int) := by omega
            go_wp2_with (at_builtin; refine wpList_append_own _ rfl (.tmp 36) (.tmp 41) 29 rfl WX.heap.size 9 i9 _ 1 16 Try.underlying29 hi9 hz9 hs9 hy9 rfl (by omega) _ 0 [] rfl (O1.out.alloc _) ⟨WX.heap.size + 1, 0, none⟩ 1 1 [str x] rfl rfl (kd_news3 WX _ [str x] 9) (by simp [Value.oneCell']) (by unfold maxLen; omega) (by omega) (by simp; omega) ?_; intro v2 w2 o2 g2 _; rw [Nat.zero_add, List.nil_append] at o2; have HB2 := Lib.hid ((B0.out.alloc hbz _).grown g2 (by simp; omega) (fun g hg => (O1.out.lt g hg).1)); have HO2 := Lib.hid o2; obtain ⟨g6, c6, rfl, -, -⟩ := o2.form (by omega); have hc6 : 1 ≤ c6 := own_cap o2; clear o2 g2)
            have hro : risT (l.take (0 + 1)) = [x] := by have h := HIN3.out; rw [h]; have h2 := HT.out; have h3 := HD.out; rw [List.length_eq_zero_iff.1 h2, List.length_eq_zero_iff.1 h3]; rfl
            have hRH : RH w.heap.size w (.slice (some ⟨g6, 0, none⟩) 1 c6) (risT (l.take (0 + 1))) w2 := ⟨own_mono (by rw [hro]; exact HO2.out) hbx, HWX.out.bel.trans (HB2.out.mono hbx)⟩
            exact ⟨⟨0 + 1, by omega, by go_num, Lib.hid hRH⟩, by simp [intOf]; omega⟩
          case' inr.inl =>
            have hkp : k - c1 = 0 := by omega
            rw [hkp] at P2 N2 HD
            clear hkp
          all_goals
            subst hA0
            go_wp2_with (at_builtin; first
              | (refine wpList_append_C (s := 1) (cells := fun x => [str x]) (fun x => one_str x) _ rfl (.tmp 31) (.tmp 34) 29 rfl WX.heap.size 9 i9 _ 16 Try.underlying29 hi9 hz9 hs9 hy9 rfl (by omega) _ 0 [] rfl (O1.out) _ t1 rfl (P1.out.below B0.out) (N1.out) (fun x u hu => by rw [List.mem_singleton.1 hu]; rfl) (by unfold maxLen; have := HT.out; omega) (by have := HT.out; omega) (by have := B0.out.size; exact this) ?_
                 intro v1 w1 o1 g1
                 rw [Nat.zero_add, List.nil_append, flat_str] at o1
                 have HB1 := Lib.hid (B0.out.grown g1 B0.out.size (fun g hg => (O1.out.lt g hg).1))
                 have x1 := (HB1.out.cell (p := ⟨b, off + k, none⟩) hblt).trans X1.out
                 have HO1 := Lib.hid o1
                 have z1 := HB1.out.size
                 obtain ⟨A5, c5, rfl⟩ := kd_form o1
                 clear o1 g1)
              | (refine wpList_append_own _ rfl (.tmp 36) (.tmp 41) 29 rfl WX.heap.size 9 i9 _ 1 16 Try.underlying29 hi9 hz9 hs9 hy9 rfl (by omega) _ t1.length (t1.map str) rfl (HO1.out.alloc _) ⟨w1.heap.size, 0, none⟩ 1 1 [str x] rfl rfl (kd_news (Blk.new w1 _ _)) (by simp [Value.oneCell']) (by unfold maxLen; have := HT.out; omega) (by have := HT.out; omega) (by simp; omega) ?_
                 intro v2 w2 o2 g2 _
                 have HB2 := Lib.hid ((HB1.out.alloc z1 _).grown g2 (by simp; omega) (fun g hg => (HO1.out.lt g hg).1))
                 have HO2 := Lib.hid o2
                 have z2 := HB2.out.size
                 obtain ⟨A6, c6, rfl⟩ := kd_form o2
                 clear o2 g2)
              | (refine wpList_append_C (s := 1) (cells := fun x => [str x]) (fun x => one_str x) _ rfl (.tmp 43) (.tmp 46) 29 rfl WX.heap.size 9 i9 _ 16 Try.underlying29 hi9 hz9 hs9 hy9 rfl (by omega) _ (t1.length + 1) (t1.map str ++ [str x]) rfl (HO2.out) _ t2 rfl (P2.out.below HB2.out) (N2.out) (fun x u hu => by rw [List.mem_singleton.1 hu]; rfl) (by unfold maxLen; have := HT.out; have := HD.out; omega) (by have := HT.out; have := HD.out; omega) z2 ?_
                 intro v3 w3 o3 g3
                 rw [flat_str] at o3
                 have HO3 := Lib.hid o3
                 have HB3 := Lib.hid (HB2.out.grown g3 z2 (fun g hg => (HO2.out.lt g hg).1))
                 obtain ⟨A7, c7, rfl⟩ := kd_form o3
                 clear o3 g3))
            have hke : t1.length + 1 + t2.length = k + 1 := by have := HT.out; have := HD.out; omega
            have hro : risT (l.take (k + 1)) = t1 ++ x :: t2 := HIN3.out
            have hRH : RH w.heap.size w (.slice A7 (t1.length + 1 + t2.length) c7) (risT (l.take (k + 1))) w3 := ⟨own_mono (by
              rw [hro]
              have := HO3.out
              rw [show (t1 ++ x :: t2).length = t1.length + 1 + t2.length by simp; omega, show (t1 ++ x :: t2).map str = t1.map str ++ [str x] ++ t2.map str by simp]
              exact this) hbx, HWX.out.bel.trans (HB3.out.mono hbx)⟩
            exact ⟨⟨k + 1, by omega, by go_num, Lib.hid hRH⟩, by simp [intOf]; omega⟩
        · obtain ⟨g0, hA, r1⟩ := HR.out (gk - 1) (by omega)
          obtain ⟨W1, hW1⟩ : ∃ W1, W1 = W.drewN n0 := ⟨_, rfl⟩
          have HW1 := Lib.hid hW1
          rw [← hW1]
          have y1 : W1.cell? ⟨g0, gk - 1, none⟩ = some (str (o.getD (gk - 1) [])) := by rw [hW1]; exact r1
          have y2 : W1.cell? ⟨b, off + k, none⟩ = some (str x) := by rw [hW1]; exact lx
          have hp0 : (0 : Int) < (gk : Int) := by omega
          have hp1 : decide ((0 : Int) < (gk : Int)) = true := decide_eq_true hp0
          have hp3 : decide (0 < gk) = true := decide_eq_true (by omega)
          have ew : IntKind.i64.wrap ((gk : Int) - 1) = ((gk - 1 : Nat) : Int) := by rw [show ((gk - 1 : Nat) : Int) = (gk : Int) - 1 by omega]; exact IntWalk.i64_in _ (by omega)
          have ew2 : IntKind.i64.wrap ((gk - 1 : Nat) : Int) = ((gk - 1 : Nat) : Int) := IntWalk.i64_in _ (by omega)
          have hj1 : ((gk - 1 : Nat) : Int) < (k : Int) := by omega
          have hj0 : (0 : Int) ≤ ((gk - 1 : Nat) : Int) := by omega
          have hk1 : (k : Int) < (l.length : Int) := by omega
          subst hA
          obtain ⟨a, ha⟩ : ∃ a, a = o.getD (gk - 1) [] := ⟨_, rfl⟩
          have hp2 : (if gtT a x then posT o x (gk - 1) else gk) = P := by
            obtain ⟨j, rfl⟩ : ∃ j, gk = j + 1 := ⟨gk - 1, by omega⟩
            rw [ha]; exact hp
          rw [← ha] at y1
          clear ha r1 hp HQ
          cases hg : gtT a x with
          | true =>
            have HN := Lib.hid (show posT o x (gk - 1) = P by rw [hg] at hp2; exact hp2)
            have hg2 : (!Op.bytesLess a x && !(a == x)) = true := hg
            clear hg hp2 hW1
            go_wp2_with fail
            go_quiet (fail)
            go_wp2_with fail
            go_roundg (gk - 1)
            case measure => omega
            case rel => exact ⟨by go_num, by omega, ⟨HN.out, _, by rw [HW1.out]; exact World.drewN_drewN _ _ _⟩⟩
          | false =>
            obtain rfl : gk = P := by rw [hg] at hp2; exact hp2
            have hg2 : (!Op.bytesLess a x && !(a == x)) = false := hg
            clear hg hp2 hW1
            go_wp2_with fail
            go_quiet (fail)
            clear hg2 y1 y2 ew ew2 hp0 hp1 hp3 hj1 hj0
            obtain ⟨WX, hWX0⟩ : ∃ WX, WX = W1.drewN nq := ⟨_, rfl⟩
            rw [← hWX0]
            have hWX : WX = W.drewN (n0 + nq) := by rw [hWX0, HW1.out]; exact World.drewN_drewN _ _ _
            clear hWX0
            have HWX := Lib.hid (show RH w.heap.size w (.slice (some ⟨g0, 0, none⟩) o.length c) o WX by have := HO.out.1.drewN (n0 + nq); rwa [← hWX] at this)
            have hbx := HWX.out.bel.size
            have hpp := partsT (o := o) (k := k) (by have := own_NX (f := str) rfl HWX.out.own; rwa [hol] at this) hol (by have := HSH.out; rw [hol] at this; rw [hWX]; exact this) hPl
            obtain ⟨A1, c1, A2, c2, p1, p2, hw⟩ := hpp
            have P1 := Lib.hid p1.sl
            have P2 := Lib.hid p2.sl
            have N1 := Lib.hid p1.hnone
            have N2 := Lib.hid p2.hnone
            have HT := Lib.hid (show (o.take gk).length = gk by rw [List.length_take]; omega)
            have HD := Lib.hid (show (o.drop gk).length = k - gk by rw [List.length_drop]; omega)
            have HIN2 := HIN.out.1
            have HIN3 := Lib.hid (HIN.out.2.1.trans HIN2)
            have O1 := Lib.hid (own_mt WX WX.heap.size (Nat.le_refl _) 9 1)
            have B0 := Lib.hid ((Below.refl WX.heap.size WX).alloc (Nat.le_refl _) (.cells #[] 9))
            have X1 := Lib.hid (show WX.cell? ⟨b, off + k, none⟩ = some (str x) by rw [hWX]; exact lx)
            have hblt : b < WX.heap.size := by rw [hWX]; exact l3
            clear p1 p2 HIN2 HO HSH HR HIN hWX lx
            generalize o.take gk = t1 at *
            generalize o.drop gk = t2 at *
            rcases hw with ⟨hA0, rfl, rfl, rfl, rfl, rfl, e0, ek⟩ | ⟨g, hA0, rfl, rfl, hoc, hcm, ⟨rfl, rfl, rfl⟩ | ⟨hlt2, rfl, rfl⟩⟩
            case inl => cases hA0
            case' inr.inl =>
              have hkp : k - c1 = 0 := by omega
              rw [hkp] at P2 N2 HD
              clear hkp
            all_goals
              cases hA0
              go_wp2_with (at_builtin; first
                | (refine wpList_append_C (s := 1) (cells := fun x => [str x]) (fun x => one_str x) _ rfl (.tmp 31) (.tmp 34) 29 rfl WX.heap.size 9 i9 _ 16 Try.underlying29 hi9 hz9 hs9 hy9 rfl (by omega) _ 0 [] rfl (O1.out) _ t1 rfl (P1.out.below B0.out) (N1.out) (fun x u hu => by rw [List.mem_singleton.1 hu]; rfl) (by unfold maxLen; have := HT.out; omega) (by have := HT.out; omega) (by have := B0.out.size; exact this) ?_
                   intro v1 w1 o1 g1
                   rw [Nat.zero_add, List.nil_append, flat_str] at o1
                   have HB1 := Lib.hid (B0.out.grown g1 B0.out.size (fun g hg => (O1.out.lt g hg).1))
                   have x1 := (HB1.out.cell (p := ⟨b, off + k, none⟩) hblt).trans X1.out
                   have HO1 := Lib.hid o1
                   have z1 := HB1.out.size
                   obtain ⟨A5, c5, rfl⟩ := kd_form o1
                   clear o1 g1)
                | (refine wpList_append_own _ rfl (.tmp 36) (.tmp 41) 29 rfl WX.heap.size 9 i9 _ 1 16 Try.underlying29 hi9 hz9 hs9 hy9 rfl (by omega) _ t1.length (t1.map str) rfl (HO1.out.alloc _) ⟨w1.heap.size, 0, none⟩ 1 1 [str x] rfl rfl (kd_news (Blk.new w1 _ _)) (by simp [Value.oneCell']) (by unfold maxLen; have := HT.out; omega) (by have := HT.out; omega) (by simp; omega) ?_
                   intro v2 w2 o2 g2 _
                   have HB2 := Lib.hid ((HB1.out.alloc z1 _).grown g2 (by simp; omega) (fun g hg => (HO1.out.lt g hg).1))
                   have HO2 := Lib.hid o2
                   have z2 := HB2.out.size
                   obtain ⟨A6, c6, rfl⟩ := kd_form o2
                   clear o2 g2)
                | (refine wpList_append_C (s := 1) (cells := fun x => [str x]) (fun x => one_str x) _ rfl (.tmp 43) (.tmp 46) 29 rfl WX.heap.size 9 i9 _ 16 Try.underlying29 hi9 hz9 hs9 hy9 rfl (by omega) _ (t1.length + 1) (t1.map str ++ [str x]) rfl (HO2.out) _ t2 rfl (P2.out.below HB2.out) (N2.out) (fun x u hu => by rw [List.mem_singleton.1 hu]; rfl) (by unfold maxLen; have := HT.out; have := HD.out; omega) (by have := HT.out; have := HD.out; omega) z2 ?_
                   intro v3 w3 o3 g3
                   rw [flat_str] at o3
                   have HO3 := Lib.hid o3
                   have HB3 := Lib.hid (HB2.out.grown g3 z2 (fun g hg => (HO2.out.lt g hg).1))
                   obtain ⟨A7, c7, rfl⟩ := kd_form o3
                   clear o3 g3))
              have hke : t1.length + 1 + t2.length = k + 1 := by have := HT.out; have := HD.out; omega
              have hro : risT (l.take (k + 1)) = t1 ++ x :: t2 := HIN3.out
              have hRH : RH w.heap.size w (.slice A7 (t1.length + 1 + t2.length) c7) (risT (l.take (k + 1))) w3 := ⟨own_mono (by
                rw [hro]
                have := HO3.out
                rw [show (t1 ++ x :: t2).length = t1.length + 1 + t2.length by simp; omega, show (t1 ++ x :: t2).map str = t1.map str ++ [str x] ++ t2.map str by simp]
                exact this) hbx, HWX.out.bel.trans (HB3.out.mono hbx)⟩
              exact ⟨⟨k + 1, by omega, by go_num, Lib.hid hRH⟩, by simp [intOf]; omega⟩
    · have : k = l.length := by omega
      subst this
      have h := HK.out
      rw [List.take_length] at h
      have HE := Lib.hid h
      clear h HK
      go_wp2_with fail
      go_ret
      exact ⟨u3, rfl, by have := HE.out.own; rwa [risT_len] at this, HE.out.bel⟩
end Go.Proofs.Ytlpcddmcddenfaa.Kp
