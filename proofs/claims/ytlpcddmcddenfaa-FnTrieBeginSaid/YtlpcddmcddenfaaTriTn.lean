/- laws.treeTurned of words: the walk. -/
import Derived.Test.YtlpcddmcddenfaaTriPw
import Derived.Test.YtlpcddmcddenfaaIntRow
import Derived.Test.YtlpcddmcddenfaaReg
import Derived.Deep.Cut
import Derived.Deep.RegionWith
namespace Go.Proofs.Ytlpcddmcddenfaa.Kp
open Go.RowKit Tri

def wordCells (l : List WordD) : List Value := l.flatMap wordCell
theorem own_empty (w : World) (T : TypeId) (s : Nat) : (w.alloc (.cells #[] T)).ownsRow w.heap.size T s (.slice (some ⟨w.heap.size, 0, none⟩) 0 0) 0 [] := own_mt w w.heap.size (Nat.le_refl _) T s
theorem wordCells_get : ∀ (l : List WordD) (i : Nat) (a : WordD), l[i]? = some a → (wordCells l)[i * 3]? = some (.int .i64 a.act) ∧ (wordCells l)[i * 3 + 1]? = some (str a.key) ∧ (wordCells l)[i * 3 + 2]? = some (.int .i64 a.val)
  | [], i, a, h => by simp at h
  | x :: l, 0, a, h => by simp at h; subst h; exact ⟨rfl, rfl, rfl⟩
  | x :: l, i + 1, a, h => by
    have ih := wordCells_get l i a (by simpa using h)
    rw [show (i + 1) * 3 = i * 3 + 1 + 1 + 1 by omega]
    exact ih
theorem tmod_bd (k n : Int) (h : 0 < n) : -n < k.tmod n ∧ k.tmod n < n := by
  constructor
  · have := Int.tmod_lt_of_pos (-k) h
    rw [Int.neg_tmod] at this; omega
  · exact Int.tmod_lt_of_pos k h
theorem mod_math (k n : Int) (h : 0 < n) (h2 : n ≤ 4611686018427387903) : (wrap64 (k.tmod n + n)).tmod n = k % n := by
  obtain ⟨a, b⟩ := tmod_bd k n h
  rw [show wrap64 (k.tmod n + n) = k.tmod n + n by unfold wrap64; omega]
  rw [Int.tmod_eq_emod_of_nonneg (by omega : 0 ≤ k.tmod n + n)]
  have e : (k.tmod n + n) % n = k % n := by
    rw [Int.add_emod_right, Int.tmod_def]
    rw [Int.sub_emod, Int.mul_emod_right]; simp
  rw [e]
theorem own_setC {w : World} {base : Nat} {T : TypeId} {s n g cap : Nat} {xs : List Value} (ho : w.ownsRow base T s (.slice (some ⟨g, 0, none⟩) n cap) n xs) (j : Nat) (u : Value) :
    (w.setCell ⟨g, j, none⟩ u).ownsRow base T s (.slice (some ⟨g, 0, none⟩) n cap) n (xs.set j u) := by
  refine ⟨by rw [List.length_set]; exact ho.1, ?_⟩
  rcases ho.2 with ⟨e, _⟩ | ⟨g', cap', cur, e, h1, h2, h3, h4, h5, h6⟩
  · cases e
  · cases e
    refine .inr ⟨g, cap, cur.setIfInBounds j u, rfl, h1, Blk.set (show Blk w g cur T from h2) j u, h3, h4, by simpa using h5, ?_⟩
    rw [Array.toList_setIfInBounds, ← h6, List.take_set]
theorem wordCells_set : ∀ (l : List WordD) (i : Nat) (y : WordD), wordCells (l.set i y) = (((wordCells l).set (i * 3) (.int .i64 y.act)).set (i * 3 + 1) (str y.key)).set (i * 3 + 2) (.int .i64 y.val)
  | [], _, _ => rfl
  | a :: l, 0, y => rfl
  | a :: l, i + 1, y => by
    have ih := wordCells_set l i y
    show _ :: _ :: _ :: wordCells (l.set i y) = _
    rw [ih, show (i + 1) * 3 = i * 3 + 1 + 1 + 1 by omega]
    rfl
theorem own_swap {w : World} {base : Nat} {n g cap : Nat} {L : List WordD} (ho : w.ownsRow base 28 3 (.slice (some ⟨g, 0, none⟩) n cap) n (wordCells L)) (a b : Nat) (x y : WordD) :
    ((((((w.setCell ⟨g, a * 3, none⟩ (.int .i64 y.act)).setCell ⟨g, a * 3 + 1, none⟩ (str y.key)).setCell ⟨g, a * 3 + 2, none⟩ (.int .i64 y.val)).setCell ⟨g, b * 3, none⟩ (.int .i64 x.act)).setCell ⟨g, b * 3 + 1, none⟩ (str x.key)).setCell ⟨g, b * 3 + 2, none⟩ (.int .i64 x.val)).ownsRow base 28 3 (.slice (some ⟨g, 0, none⟩) n cap) n (wordCells ((L.set a y).set b x)) := by
  have := own_setC (own_setC (own_setC (own_setC (own_setC (own_setC ho (a * 3) (.int .i64 y.act)) (a * 3 + 1) (str y.key)) (a * 3 + 2) (.int .i64 y.val)) (b * 3) (.int .i64 x.act)) (b * 3 + 1) (str x.key)) (b * 3 + 2) (.int .i64 x.val)
  rw [wordCells_set, wordCells_set]
  exact this
/-- what an own row of steps holds. -/
theorem own_acts {w : World} {base n : Nat} {A : Option Addr} {cap : Nat} {L : List WordD} (hL : L.length = n) (ho : w.ownsRow base 28 3 (.slice A n cap) n (wordCells L)) (hn : 0 < n) :
    ∃ g, A = some ⟨g, 0, none⟩ ∧ base ≤ g ∧ g < w.heap.size ∧ n ≤ cap ∧ (∀ i, w.frozen? ⟨g, i, none⟩ = false) ∧ ∀ (i : Nat) a, L[i]? = some a → w.cell? ⟨g, i * 3, none⟩ = some (.int .i64 a.act) ∧ w.cell? ⟨g, i * 3 + 1, none⟩ = some (str a.key) ∧ w.cell? ⟨g, i * 3 + 2, none⟩ = some (.int .i64 a.val) := by
  rcases ho.2 with ⟨_, h0⟩ | ⟨g, cap', cur, e, h1, h2, h3, h4, h5, h6⟩
  · omega
  · cases e
    have hb : Blk w g cur 28 := h2
    refine ⟨g, rfl, h1, hb.lt, h3, hb.frozen, fun i a hi => ?_⟩
    have hil : i < n := by rw [← hL]; exact (List.getElem?_eq_some_iff.1 hi).1
    obtain ⟨a0, a1, a2⟩ := wordCells_get L i a hi
    have key : ∀ j x, j < n * 3 → (wordCells L)[j]? = some x → w.cell? ⟨g, j, none⟩ = some x := by
      intro j x hj hx
      rw [← h6, List.getElem?_take_of_lt hj] at hx
      rw [hb.cell j, ← hx]; simp
    exact ⟨key _ _ (by omega) a0, key _ _ (by omega) a1, key _ _ (by omega) a2⟩
theorem cells2_drew' {w3 w : World} {p0 p1 : Addr} {v0 v1 : Value} (m : Nat) (h : w.cell? p0 = some v0 ∧ w.cell? p1 = some v1 ∧ ∃ n, w = w3.drewN n) :
    (w.drewN m).cell? p0 = some v0 ∧ (w.drewN m).cell? p1 = some v1 ∧ ∃ n, w.drewN m = w3.drewN n := by
  obtain ⟨h0, h1, n, rfl⟩ := h
  exact ⟨h0, h1, _, World.drewN_drewN _ _ _⟩
structure TurnI (w : World) (n : Nat) (l : List WordD) (v : Value) (wx : World) : Prop where
  is : ∃ L, L.Perm l ∧ wx.ownsRow w.heap.size 28 3 v n (wordCells L)
  bel : Below w.heap.size w wx
theorem TurnI.end' {w w1 : World} {n : Nat} {l L : List WordD} {v : Value} (h1 : L.Perm l) (h2 : w1.ownsRow w.heap.size 28 3 v n (wordCells L)) (h3 : Below w.heap.size w w1) : TurnI w n l v w1.drew :=
  ⟨⟨L, h1, h2.drew⟩, h3.trans (Below.drewN w1 1)⟩
set_option maxRecDepth 100000 in
set_option maxHeartbeats 3200000 in
theorem turned_calls (lv tv : Value) (l : List WordD) (ts : List Int) (w : World) (hl : SlC 3 wordCell w w.heap.size lv l) (hln : ∀ m c, lv = .slice none m c → m = 0 ∧ c = 0) (ht : SlI w w.heap.size tv ts) (hn : l.length ≤ 5000000000) (htn : ts.length ≤ 5000000000) :
    Calls Try.prog 15 #[lv, tv] w fun e w' => ∃ v L, e = .returned v ∧ w'.ownsRow w.heap.size 28 3 v l.length (wordCells L) ∧ L.Perm l ∧ Below w.heap.size w w' := by
  obtain ⟨A, c, rfl⟩ := hl.form
  obtain ⟨A2, c2, rfl⟩ := ht.form
  obtain ⟨i0, hi0, hz0, hz1, hz2⟩ := info_parts infoWord
  have HL := Lib.hid hl
  have HLN := Lib.hid hln
  have HT := Lib.hid ht
  clear hl hln ht
  go_enter Try.func15, Try.ntmps15
  go_wp2_with (at_builtin; (refine wpList_append_C wordCell_len _ rfl (.tmp 9) (.tmp 10) 22 rfl w.heap.size 28 i0 _ 32 Try.underlying22 hi0 hz0 hz1 hz2 rfl (by omega) _ 0 [] rfl (own_empty w _ 3) _ l rfl (HL.out.below ((Below.refl _ w).alloc (Nat.le_refl _) _)) HLN.out (by intro a; simp [wordCell, Value.oneCell']) (by unfold maxLen; omega) (by omega) (by simp) ?_))
  intro v1 w1 hown1 hgrow1
  have B1 : Below w.heap.size w w1 := ((Below.refl _ w).alloc (Nat.le_refl _) _).grown hgrow1 (by simp) (fun g hg => (own_empty w 28 3).lt g hg |>.1)
  have HI := Lib.hid (show TurnI w l.length l v1 w1 from ⟨⟨l, List.Perm.refl _, hown1⟩, B1⟩)
  obtain ⟨A1, c1, rfl⟩ := kd_form hown1
  clear hown1 hgrow1 B1
  go_wp2_with fail
  go_loopw [6] (fun i wx => ∃ k : Nat, k ≤ ts.length ∧ i = .int .i64 k ∧ Hid (TurnI w l.length l (.slice A1 l.length c1) wx)) (fun i _ => ts.length - (intOf i).toNat)
  case atStart => exact ⟨0, Nat.zero_le _, rfl, HI⟩
  case round =>
    obtain ⟨k, hk, rfl, HK⟩ := hrel
    by_cases hlt : k < ts.length ∧ 0 < l.length
    · obtain ⟨hlt, hpos⟩ := hlt
      have pk0 : (0 : Int) ≤ (k : Int) := by omega
      have pk1 : (k : Int) < (ts.length : Int) := by omega
      have pl0 : (0 : Int) < (l.length : Int) := by omega
      have e0 : decide ((k : Int) < (ts.length : Int)) = true := decide_eq_true pk1
      have e1 : decide (0 < (l.length : Int)) = true := decide_eq_true pl0
      obtain ⟨L, hperm, hown⟩ := HK.out.is
      obtain ⟨g, rfl, hg, hgl, hcap, gf, hcells⟩ := own_acts hperm.length_eq hown hpos
      obtain ⟨b, off, rfl, _, _, x1⟩ := SlI.at_ HT.out hlt
      have y1 : wr.cell? ⟨b, off + k, none⟩ = some (.int .i64 ts[k]) := ((HT.out.below HK.out.bel) |> fun h => by
        obtain ⟨b', off', e, _, _, x⟩ := SlI.at_ h hlt
        simp at e
        obtain ⟨rfl, rfl⟩ := e
        exact x)
      generalize ts[k] = t at *
      go_upto_region 5 with (fail)
      go_cut [7, 8] (fun s7 s8 wx => ∃ a b : Nat, a < l.length ∧ b < l.length ∧ s7 = .int .i64 (a : Nat) ∧ s8 = .int .i64 (b : Nat) ∧ ∃ n, wx = wr.drewN n)
      case first =>
        have hne : ((l.length : Int) == 0) = false := by rw [beq_eq_false_iff_ne]; omega
        have hne2 : ¬ l = [] := fun h => by rw [h] at hpos; simp at hpos
        refine region_runs (S := (fun w' => w'.cell? ⟨b, off + k, none⟩ = some (.int .i64 t) ∧ w'.cell? ⟨b, off + k, none⟩ = some (.int .i64 t) ∧ ∃ n, w' = wr.drewN n)) (by kernel_rfl) (by kernel_rfl) (by kernel_rfl) (cells2_drew' 1 ⟨y1, y1, 0, rfl⟩) ?_
        iterate 19
          first
          | (refine Runs.off (by rfl) ?_
             simp only [Act.put, List.setIfInBounds_toArray, List.set_cons_zero, List.set_cons_succ])
          | (refine Runs.take (v := ?_) (by rfl) ?_ ?_
             rotate_left 1
             · intro w hSw; (try dsimp only at hSw); go_simp; (try with_reducible rfl)
             simp only [Act.put, List.setIfInBounds_toArray, List.set_cons_zero, List.set_cons_succ])
          | fail
        dsimp only [Runs]
        intro w' hH
        go_wp2_with fail
        go_meet
        have hm1 := Int.emod_nonneg t (show (l.length : Int) ≠ 0 by omega)
        have hm2 := Int.emod_lt_of_pos t pl0
        have hm3 : (IntKind.i64.wrap (t.tmod (l.length : Int) + (l.length : Int))).tmod (l.length : Int) = t % (l.length : Int) := by
          have h1 := mod_math t l.length (by omega) (by omega)
          have h2 := tmod_bd t l.length pl0
          rw [show wrap64 (t.tmod (l.length : Int) + (l.length : Int)) = t.tmod (l.length : Int) + (l.length : Int) by unfold wrap64; omega] at h1
          rw [IntWalk.i64_in _ (by omega)]; exact h1
        refine ⟨k % l.length, (t % (l.length : Int)).toNat, Nat.mod_lt _ hpos, by omega, ?_, ?_, hH.2.2⟩
        · rw [Int.tmod_eq_emod_of_nonneg pk0]; rfl
        · rw [hm3, Int.toNat_of_nonneg hm1]
      case rest =>
        obtain ⟨a, d, ha, hd, rfl, rfl, n1, hw1⟩ := hcut
        obtain ⟨x, hx⟩ : ∃ x, L[a]? = some x := ⟨_, List.getElem?_eq_getElem (by rw [hperm.length_eq]; exact ha)⟩
        obtain ⟨y, hy⟩ : ∃ x, L[d]? = some x := ⟨_, List.getElem?_eq_getElem (by rw [hperm.length_eq]; exact hd)⟩
        have hownc : wc.ownsRow w.heap.size 28 3 (.slice (some ⟨g, 0, none⟩) l.length c1) l.length (wordCells L) := by rw [hw1]; exact hown
        have hbc : Below w.heap.size w wc := by rw [hw1]; exact HK.out.bel.trans (Below.drewN _ _)
        obtain ⟨g', hg', _, gl', _, gf', hcells'⟩ := own_acts hperm.length_eq hownc hpos
        obtain rfl : g = g' := by simpa using hg'
        obtain ⟨x0, x1', x2⟩ := hcells' a x hx
        obtain ⟨y0, y1', y2⟩ := hcells' d y hy
        have hsw := own_swap hownc a d x y
        have hpm : ((L.set a y).set d x).Perm l := by
          obtain ⟨h1, e1⟩ := List.getElem?_eq_some_iff.1 hx
          obtain ⟨h2, e2⟩ := List.getElem?_eq_some_iff.1 hy
          have := List.set_set_perm h1 h2
          rw [e1, e2] at this
          exact this.trans hperm
        have hxy : a = d → x = y := fun e => by subst e; rw [hx] at hy; cases hy; rfl
        have HB6 := Lib.hid ((((((hbc.setCell (p := ⟨g, a * 3, none⟩) hg (.int .i64 y.act)).setCell (p := ⟨g, a * 3 + 1, none⟩) hg (str y.key)).setCell (p := ⟨g, a * 3 + 2, none⟩) hg (.int .i64 y.val)).setCell (p := ⟨g, d * 3, none⟩) hg (.int .i64 x.act)).setCell (p := ⟨g, d * 3 + 1, none⟩) hg (str x.key)).setCell (p := ⟨g, d * 3 + 2, none⟩) hg (.int .i64 x.val))
        have HS := Lib.hid (And.intro hsw (And.intro hpm hbc))
        have HXY := Lib.hid hxy
        clear hxy
        have a0 : (0 : Int) ≤ (a : Int) := by omega
        have a1 : (a : Int) < (l.length : Int) := by omega
        have b0 : (0 : Int) ≤ (d : Int) := by omega
        have b1 : (d : Int) < (l.length : Int) := by omega
        clear hsw hpm hbc hownc hcells hcells' hw1 hx hy hg' hown gf hgl y1 x1
        by_cases had : a = d
        · subst had
          obtain rfl := HXY.out rfl
          obtain ⟨xa, xk, xv⟩ := x
          simp only at x0 x1' x2 y0 y1' y2 HS HB6
          go_wp2_with fail
          go_region_with (fail)
          all_goals
            go_wp2_with fail
            refine ⟨⟨k + 1, by omega, by go_num, Lib.hid ?_⟩, by simp [intOf]; omega⟩
            with_reducible exact TurnI.end' HS.out.2.1 HS.out.1 HB6.out
        · have had' : ¬ d = a := fun h => had h.symm
          obtain ⟨xa, xk, xv⟩ := x
          obtain ⟨ya, yk, yv⟩ := y
          simp only at x0 x1' x2 y0 y1' y2 HS HB6
          have na00 : ¬ (a * 3 = d * 3) := by omega
          have na01 : ¬ (a * 3 = d * 3 + 1) := by omega
          have na02 : ¬ (a * 3 = d * 3 + 2) := by omega
          have na10 : ¬ (a * 3 + 1 = d * 3) := by omega
          have na11 : ¬ (a * 3 + 1 = d * 3 + 1) := by omega
          have na12 : ¬ (a * 3 + 1 = d * 3 + 2) := by omega
          have na20 : ¬ (a * 3 + 2 = d * 3) := by omega
          have na21 : ¬ (a * 3 + 2 = d * 3 + 1) := by omega
          have na22 : ¬ (a * 3 + 2 = d * 3 + 2) := by omega
          have nd00 : ¬ (d * 3 = a * 3) := by omega
          have nd01 : ¬ (d * 3 = a * 3 + 1) := by omega
          have nd02 : ¬ (d * 3 = a * 3 + 2) := by omega
          have nd10 : ¬ (d * 3 + 1 = a * 3) := by omega
          have nd11 : ¬ (d * 3 + 1 = a * 3 + 1) := by omega
          have nd12 : ¬ (d * 3 + 1 = a * 3 + 2) := by omega
          have nd20 : ¬ (d * 3 + 2 = a * 3) := by omega
          have nd21 : ¬ (d * 3 + 2 = a * 3 + 1) := by omega
          have nd22 : ¬ (d * 3 + 2 = a * 3 + 2) := by omega
          go_wp2_with fail
          go_region_with (fail)
          all_goals
            go_wp2_with fail
            refine ⟨⟨k + 1, by omega, by go_num, Lib.hid ?_⟩, by simp [intOf]; omega⟩
            with_reducible exact TurnI.end' HS.out.2.1 HS.out.1 HB6.out
    · have hdn : decide ((k : Int) < (ts.length : Int)) = false ∨ decide (0 < (l.length : Int)) = false := by
        by_cases h : k < ts.length
        · right; exact decide_eq_false (by omega)
        · left; exact decide_eq_false (by omega)
      obtain ⟨L, hperm, hown⟩ := HK.out.is
      have HO := Lib.hid (And.intro hown (And.intro hperm HK.out.bel))
      clear hperm hown HK
      have hfin : Calls Try.prog 15 #[] w (fun _ _ => True) = Calls Try.prog 15 #[] w (fun _ _ => True) := rfl
      clear hfin
      by_cases h1 : k < ts.length
      · have h2 : ¬ 0 < l.length := fun h => hlt ⟨h1, h⟩
        have e1 : decide ((k : Int) < (ts.length : Int)) = true := decide_eq_true (by omega)
        have e2 : decide (0 < (l.length : Int)) = false := decide_eq_false (by omega)
        have e3 : ¬ 0 < (l.length : Int) := by omega
        have e4 : l = [] := List.length_eq_zero_iff.1 (by omega)
        have hL : L = [] := List.Perm.eq_nil (e4 ▸ HO.out.2.1)
        have hO : wr.ownsRow w.heap.size 28 3 (.slice A1 0 c1) 0 (wordCells []) ∧ Below w.heap.size w wr := by
          have h := HO.out
          rw [e4, hL] at h
          exact ⟨h.1, h.2.2⟩
        have HO' := Lib.hid hO
        clear hdn hlt hO hL
        go_wp2_with fail
        go_ret
        exact ⟨.slice A1 0 c1, rfl, [], HO'.out.1, by first | exact List.Perm.nil | simp, HO'.out.2⟩
      · have e1 : decide ((k : Int) < (ts.length : Int)) = false := decide_eq_false (by omega)
        clear hdn hlt
        go_wp2_with fail
        go_ret
        exact ⟨.slice A1 l.length c1, L, rfl, HO.out.1, HO.out.2.1, HO.out.2.2⟩
end Go.Proofs.Ytlpcddmcddenfaa.Kp
