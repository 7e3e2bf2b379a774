/- interval trees in memory: the least node, search, remove. -/
import Derived.Test.YtomclflknjkhfaaItv3
namespace Go.Proofs.Ytomclflknjkhfaa
open Go.RowKit ItP

theorem IT.least_cells : ∀ {t : IT} {w : World}, t.In w → t ≠ .nil → w.cell? ⟨t.least.1, 0, none⟩ = some (.int .i64 t.least.2.lo) ∧ w.cell? ⟨t.least.1, 1, none⟩ = some (.int .i64 t.least.2.hi) ∧ w.cell? ⟨t.least.1, 2, none⟩ = some (.int .i64 t.least.2.v) ∧ t.least.1 ∈ t.ids
  | .nil, _, _, h => absurd rfl h
  | .node b s h m .nil r, w, hi, _ => by
    obtain ⟨⟨p0, p1, p2, _⟩, pf⟩ := node_cells hi.1
    exact ⟨p0, p1, p2, List.mem_cons_self ..⟩
  | .node b s h m (.node b2 s2 h2 m2 l2 r2) r, w, hi, _ => by
    obtain ⟨a1, a2, a3, a4⟩ := IT.least_cells (t := .node b2 s2 h2 m2 l2 r2) hi.2.1 (by simp)
    exact ⟨a1, a2, a3, List.mem_cons_of_mem _ (List.mem_append_left _ a4)⟩
theorem least_calls : ∀ (t : IT) (w : World), t.In w → t ≠ .nil →
    Calls Try.prog 131 #[.pointer t.ptr] w fun e w' => e = .returned (.pointer (some ⟨t.least.1, 0, none⟩)) ∧ w = w' := by
  intro t
  induction t with
  | nil => intro w _ h; exact absurd rfl h
  | node b s h m l r ihl _ =>
    intro w hi _
    obtain ⟨⟨p0, p1, p2, p3, p4, p5, p6⟩, pf⟩ := node_cells hi.1
    show Calls _ _ #[.pointer (some ⟨b, 0, none⟩)] _ _
    cases l with
    | nil =>
      simp only [IT.ptr, IT.least] at *
      clear ihl
      go_enter Try.func131, Try.ntmps131
      go_wp2
      go_ret
      exact ⟨rfl, rfl⟩
    | node b2 s2 h2 m2 l2 r2 =>
      have H := Lib.hid (ihl w hi.2.1 (by simp))
      have e : (IT.node b s h m (.node b2 s2 h2 m2 l2 r2) r).least = (IT.node b2 s2 h2 m2 l2 r2).least := rfl
      rw [e]
      clear ihl e
      simp only [IT.ptr] at p4
      go_enter Try.func131, Try.ntmps131
      go_wp2_with fail
      refine H.out.mono ?_
      rintro e w1 ⟨rfl, rfl⟩
      go_wp2
      go_ret
      exact ⟨rfl, rfl⟩
/-- what remove leaves. -/
def RemPost (lo : Int) (t : IT) (w : World) (e : Ending) (w' : World) : Prop := e = .returned (.tuple #[.pointer (t.rem lo).ptr, kvOf (t.get lo), .bool (t.get lo).isSome]) ∧ (t.rem lo).In w' ∧ Fr t.ids w w'
/-- what removeThis leaves. -/
def TopPost (b : Nat) (h m : Int) (l r : IT) (w : World) (e : Ending) (w' : World) : Prop := e = .returned (.pointer (remTop b h m l r).ptr) ∧ (remTop b h m l r).In w' ∧ Fr (b :: (l.ids ++ r.ids)) w w'
theorem top_nil (b : Nat) (s : Sp) (h m : Int) (l r : IT) (w : World) (hi : (IT.node b s h m l r).In w) (hn : l = .nil ∨ r = .nil) :
    Calls Try.prog 120 #[.pointer (some ⟨b, 0, none⟩)] w (TopPost b h m l r w) := by
  have HI := Lib.hid hi
  obtain ⟨⟨p0, p1, p2, p3, p4, p5, p6⟩, pf⟩ := node_cells hi.1
  clear hi
  rcases l with _ | ⟨bl, sl, hl, ml, ll, rl⟩
  · simp only [IT.ptr] at p4
    go_enter Try.func120, Try.ntmps120
    go_wp2_with fail
    go_ret
    have e : remTop b h m .nil r = r := by cases r <;> rfl
    exact ⟨by rw [e]; rfl, by rw [e]; exact HI.out.2.2, Fr.refl _ _⟩
  · rcases r with _ | ⟨br, sr, hr, mr, lr, rr⟩
    · simp only [IT.ptr] at p4 p5
      go_enter Try.func120, Try.ntmps120
      go_wp2_with fail
      go_ret
      exact ⟨rfl, HI.out.2.1, Fr.refl _ _⟩
    · rcases hn with hn | hn <;> cases hn
theorem rem_nil (lo : Int) (w : World) : Calls Try.prog 101 #[.pointer none, .int .i64 lo] w (RemPost lo .nil w) := by
  go_enter Try.func101, Try.ntmps101
  go_wp2_with fail
  refine bodyPost_ret (v := .tuple #[.pointer none, kvOf none, .bool false]) (by simp [results, Try.results101, go_sem, kvOf]) rfl ⟨?_, ?_, Fr.alloc _ _ _⟩
  · rw [IT.rem.eq_def]; rfl
  · rw [IT.rem.eq_def]; trivial
set_option maxRecDepth 100000 in
set_option maxHeartbeats 3200000 in
theorem top_two (b : Nat) (s : Sp) (h m : Int) (bl : Nat) (sl : Sp) (hl ml : Int) (ll rl : IT) (br : Nat) (sr : Sp) (hr mr : Int) (lr rr : IT) (w : World) (hi : (IT.node b s h m (.node bl sl hl ml ll rl) (.node br sr hr mr lr rr)).In w) (hn : (IT.node b s h m (.node bl sl hl ml ll rl) (.node br sr hr mr lr rr)).ids.Nodup)
    (ih : ∀ (lo : Int) (w' : World), (IT.node br sr hr mr lr rr).In w' → Calls Try.prog 101 #[.pointer (some ⟨br, 0, none⟩), .int .i64 lo] w' (RemPost lo (.node br sr hr mr lr rr) w')) :
    Calls Try.prog 120 #[.pointer (some ⟨b, 0, none⟩)] w (TopPost b h m (.node bl sl hl ml ll rl) (.node br sr hr mr lr rr) w) := by
  have IH := Lib.hid ih
  obtain ⟨L, hL⟩ : ∃ L, L = IT.node bl sl hl ml ll rl := ⟨_, rfl⟩
  obtain ⟨R, hR⟩ : ∃ R, R = IT.node br sr hr mr lr rr := ⟨_, rfl⟩
  have e : remTop b h m (.node bl sl hl ml ll rl) (.node br sr hr mr lr rr) = .node b R.least.2 h m L (R.rem R.least.2.lo) := by rw [hL, hR]; rfl
  have hRn : R ≠ .nil := by rw [hR]; simp
  have pl : L.ptr = some ⟨bl, 0, none⟩ := by rw [hL]; rfl
  have pr : R.ptr = some ⟨br, 0, none⟩ := by rw [hR]; rfl
  unfold TopPost
  rw [e]
  rw [← hL, ← hR] at hi hn ⊢
  rw [← hR] at IH
  clear ih e
  obtain ⟨hb, il, ir⟩ := hi
  have nb : b ∉ L.ids ∧ b ∉ R.ids ∧ (∀ i ∈ L.ids, i ∉ R.ids) ∧ R.ids.Nodup := by simp only [IT.ids] at hn; grind
  obtain ⟨q0, q1, q2, qm⟩ := IT.least_cells ir hRn
  obtain ⟨⟨p0, p1, p2, p3, p4, p5, p6⟩, pf⟩ := node_cells hb
  rw [pl] at p4
  rw [pr] at p5
  have hlb : R.least.1 ≠ b := fun e => nb.2.1 (by rw [← e]; exact qm)
  have hlb' : b ≠ R.least.1 := Ne.symm hlb
  have hLC := least_calls R w ir hRn
  rw [pr] at hLC
  have HLC := Lib.hid hLC
  have HH := Lib.hid (And.intro hb (And.intro il ir))
  have HN := Lib.hid nb
  have HE := Lib.hid (And.intro hL (And.intro hR (And.intro pl pr)))
  generalize hY : R.least = Y at *
  obtain ⟨y, ⟨ylo, yhi, yv⟩⟩ := Y
  have HY := Lib.hid hY
  simp only at q0 q1 q2 hlb hlb' qm
  clear hLC hb il ir nb hL hR pl pr hn hRn qm hY
  go_enter Try.func120, Try.ntmps120
  go_wp2_with fail
  refine HLC.out.mono ?_
  rintro e w1 ⟨rfl, rfl⟩
  go_wp2_with fail
  obtain ⟨hb, il, ir⟩ := HH.out
  have f1 : Fr [b] w (((w.setCell ⟨b, 0, none⟩ (.int .i64 ylo)).setCell ⟨b, 1, none⟩ (.int .i64 yhi)).setCell ⟨b, 2, none⟩ (.int .i64 yv)) :=
    ((Fr.setCell _ _ 0 _ (by simp)).comp (Fr.setCell _ _ 1 _ (by simp))).comp (Fr.setCell _ _ 2 _ (by simp))
  have B1 : Blk (((w.setCell ⟨b, 0, none⟩ (.int .i64 ylo)).setCell ⟨b, 1, none⟩ (.int .i64 yhi)).setCell ⟨b, 2, none⟩ (.int .i64 yv)) b (cellsI ⟨ylo, yhi, yv⟩ h m L R) 178 := ((hb.set 0 _).set 1 _).set 2 _
  have I1 := IT.In.fr f1 il (fun i hi e => HN.out.1 (by rw [← List.mem_singleton.1 e]; exact hi))
  have J1 := IT.In.fr f1 ir (fun i hi e => HN.out.2.1 (by rw [← List.mem_singleton.1 e]; exact hi))
  have Q1 : (((w.setCell ⟨b, 0, none⟩ (.int .i64 ylo)).setCell ⟨b, 1, none⟩ (.int .i64 yhi)).setCell ⟨b, 2, none⟩ (.int .i64 yv)).cell? ⟨y, 0, none⟩ = some (.int .i64 ylo) := f1.cell q0 (by simpa using hlb)
  generalize (((w.setCell ⟨b, 0, none⟩ (.int .i64 ylo)).setCell ⟨b, 1, none⟩ (.int .i64 yhi)).setCell ⟨b, 2, none⟩ (.int .i64 yv)) = w1 at *
  clear p0 p1 p2 p3 p4 p5 p6 pf q0 q1 q2 hb il ir
  obtain ⟨⟨p0, p1, p2, p3, p4, p5, p6⟩, pf⟩ := node_cells B1
  rw [HE.out.2.2.1] at p4
  rw [HE.out.2.2.2] at p5
  obtain ⟨x, yy, z, hk⟩ := kv_form (R.get ylo)
  have HK := Lib.hid hk
  have H1 := Lib.hid (And.intro f1 (And.intro B1 (And.intro I1 J1)))
  clear hk f1 B1 I1 J1
  go_region_with (go_at_call 101; refine (IH.out ylo _ (by exact IT.In.drewN 1 H1.out.2.2.2)).mono ?_; rintro e w2 ⟨rfl, hin, hfr⟩; rw [HK.out]; have B2 := (H1.out.2.1.drewN 1).fr hfr HN.out.2.1; have c5 := B2.cell 5; have cf := B2.frozen; simp only [cellsI, List.getElem?_toArray, List.getElem?_cons_succ, List.getElem?_cons_zero] at c5)
  all_goals
    go_wp2_with fail
    go_ret
    have hY2 := HY.out
    obtain ⟨rs1, rs2, rs3⟩ := rem_sub (lo := ylo) HN.out.2.2.2
    have B3 := set_r B2 (R.rem ylo) _ rfl
    have L3 := IT.In.set (IT.In.fr hfr (IT.In.drewN 1 H1.out.2.2.1) HN.out.2.2.1) 5 (.pointer (R.rem ylo).ptr) HN.out.1
    have R3 := IT.In.set hin 5 (.pointer (R.rem ylo).ptr) (fun hx => HN.out.2.1 (rs2 _ hx))
    refine ⟨rfl, ⟨B3, L3, R3⟩, ?_⟩
    exact (((H1.out.1.mono (fun i hi => .inl (by rw [List.mem_singleton.1 hi]; simp))).comp (Fr.drewN _ _ 1)).comp (hfr.mono (fun i hi => .inl (by simp [hi])))).comp (Fr.setCell _ b 5 _ (by simp))
end Go.Proofs.Ytomclflknjkhfaa
