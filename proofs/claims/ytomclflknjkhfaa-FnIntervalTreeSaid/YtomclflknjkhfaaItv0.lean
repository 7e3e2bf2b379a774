/- interval trees in memory: the ground; heights and greatest ends. -/
import Derived.Test.YtomclflknjkhfaaK
import Derived.Test.YtomclflknjkhfaaProg
import Derived.Test.YtomclflknjkhfaaItP
import Derived.Deep.RegionWith
import Derived.StillTailTactics
import Derived.Lib.Hide
import Derived.IntWalk
namespace Go.Proofs.Ytomclflknjkhfaa
open Go.RowKit ItP

theorem ret_int {k : IntKind} {a b : Int} (h : a = b) : Ending.returned (.int k a) = .returned (.int k b) := by rw [h]
def _root_.Go.Proofs.Ytomclflknjkhfaa.ItP.IT.ptr : IT → Option Addr
  | .nil => Option.none
  | .node b _ _ _ _ _ => some ⟨b, 0, Option.none⟩
def cellsI (s : Sp) (h m : Int) (l r : IT) : Array Value := #[.int .i64 s.lo, .int .i64 s.hi, .int .i64 s.v, .int .i64 h, .pointer l.ptr, .pointer r.ptr, .int .i64 m]
def _root_.Go.Proofs.Ytomclflknjkhfaa.ItP.IT.In (w : World) : IT → Prop
  | .nil => True
  | .node b s h m l r => Blk w b (cellsI s h m l r) 178 ∧ l.In w ∧ r.In w
theorem IT.In.fr {w w' : World} {S : List Nat} (hf : Fr S w w') : ∀ {t : IT}, t.In w → (∀ x ∈ t.ids, x ∉ S) → t.In w'
  | .nil, _, _ => trivial
  | .node _ _ _ _ _ _, ⟨h1, h2, h3⟩, hn => ⟨h1.fr hf (hn _ (List.mem_cons_self ..)), IT.In.fr hf h2 (fun x hx => hn x (List.mem_cons_of_mem _ (List.mem_append_left _ hx))), IT.In.fr hf h3 (fun x hx => hn x (List.mem_cons_of_mem _ (List.mem_append_right _ hx)))⟩
theorem IT.In.lt {w : World} : ∀ {t : IT}, t.In w → ∀ x ∈ t.ids, x < w.heap.size
  | .nil, _, x, hx => by cases hx
  | .node b _ _ _ l r, ⟨h1, h2, h3⟩, x, hx => by
    rcases List.mem_cons.1 hx with rfl | hx
    · exact h1.lt
    · rcases List.mem_append.1 hx with hx | hx
      · exact IT.In.lt h2 x hx
      · exact IT.In.lt h3 x hx
theorem IT.In.set {w : World} {t : IT} (h : t.In w) {b : Nat} (i : Nat) (v : Value) (hn : b ∉ t.ids) : t.In (w.setCell ⟨b, i, none⟩ v) := IT.In.fr (Fr.setCell w b i v (List.mem_singleton.2 rfl)) h (fun x hx e => hn (by rw [← List.mem_singleton.1 e]; exact hx))
theorem IT.In.drewN {w : World} (n : Nat) {t : IT} (h : t.In w) : t.In (w.drewN n) := IT.In.fr (Fr.drewN [] w n) h (fun _ _ h => by cases h)
theorem IT.In.alloc {w : World} (o : Obj) {t : IT} (h : t.In w) : t.In (w.alloc o) := IT.In.fr (Fr.alloc [] w o) h (fun _ _ h => by cases h)
theorem node_cells {w : World} {b : Nat} {s : Sp} {h m : Int} {l r : IT} {T : TypeId} (hb : Blk w b (cellsI s h m l r) T) :
    (w.cell? ⟨b, 0, none⟩ = some (.int .i64 s.lo) ∧ w.cell? ⟨b, 1, none⟩ = some (.int .i64 s.hi) ∧ w.cell? ⟨b, 2, none⟩ = some (.int .i64 s.v) ∧ w.cell? ⟨b, 3, none⟩ = some (.int .i64 h) ∧ w.cell? ⟨b, 4, none⟩ = some (.pointer l.ptr) ∧ w.cell? ⟨b, 5, none⟩ = some (.pointer r.ptr) ∧ w.cell? ⟨b, 6, none⟩ = some (.int .i64 m)) ∧ (∀ i, w.frozen? ⟨b, i, none⟩ = false) :=
  ⟨⟨hb.cell 0, hb.cell 1, hb.cell 2, hb.cell 3, hb.cell 4, hb.cell 5, hb.cell 6⟩, hb.frozen⟩
theorem far_N {w : World} {b c i : Nat} {cs : Array Value} {T : TypeId} {v : Value} (hb : Blk w b cs T) (hne : b ≠ c) : Blk (w.setCell ⟨c, i, none⟩ v) b cs T := hb.far hne
theorem set_h {w : World} {b : Nat} {s : Sp} {h m : Int} {l r : IT} {T : TypeId} (hb : Blk w b (cellsI s h m l r) T) (x : Int) : Blk (w.setCell ⟨b, 3, none⟩ (.int .i64 x)) b (cellsI s x m l r) T := hb.set 3 _
theorem set_m {w : World} {b : Nat} {s : Sp} {h m : Int} {l r : IT} {T : TypeId} (hb : Blk w b (cellsI s h m l r) T) (x : Int) : Blk (w.setCell ⟨b, 6, none⟩ (.int .i64 x)) b (cellsI s h x l r) T := hb.set 6 _
theorem set_l {w : World} {b : Nat} {s : Sp} {h m : Int} {l r : IT} {T : TypeId} (hb : Blk w b (cellsI s h m l r) T) (x : IT) (p : Option Addr) (hp : p = x.ptr) : Blk (w.setCell ⟨b, 4, none⟩ (.pointer p)) b (cellsI s h m x r) T := by subst hp; exact hb.set 4 _
theorem set_r {w : World} {b : Nat} {s : Sp} {h m : Int} {l r : IT} {T : TypeId} (hb : Blk w b (cellsI s h m l r) T) (x : IT) (p : Option Addr) (hp : p = x.ptr) : Blk (w.setCell ⟨b, 5, none⟩ (.pointer p)) b (cellsI s h m l x) T := by subst hp; exact hb.set 5 _
theorem max_calls (a b : Int) (w : World) : Calls Try.prog 135 #[.int .i64 a, .int .i64 b] w fun e w' => e = .returned (.int .i64 (max a b)) ∧ w = w' := by
  by_cases h : b < a
  · have H := Lib.hid (show max a b = a by omega)
    go_enter Try.func135, Try.ntmps135
    go_wp2
    go_ret
    exact ⟨ret_int H.out.symm, rfl⟩
  · have H := Lib.hid (show max a b = b by omega)
    go_enter Try.func135, Try.ntmps135
    go_wp2
    go_ret
    exact ⟨ret_int H.out.symm, rfl⟩
theorem getHeight_calls (t : IT) (p : Option Addr) (hp : p = t.ptr) (w : World) (hc : t = .nil ∨ ∃ b, t.ptr = some ⟨b, 0, none⟩ ∧ w.cell? ⟨b, 3, none⟩ = some (.int .i64 t.ht)) :
    Calls Try.prog 107 #[.pointer p] w fun e w' => e = .returned (.int .i64 t.ht) ∧ w = w' := by
  subst hp
  rcases hc with rfl | ⟨b, h1, h2⟩
  · show Calls _ _ #[.pointer none] _ _
    go_enter Try.func107, Try.ntmps107
    go_wp2
    go_ret
    exact ⟨rfl, rfl⟩
  · rw [h1]
    generalize t.ht = hh at *
    clear h1
    go_enter Try.func107, Try.ntmps107
    go_wp2
    go_ret
    exact ⟨rfl, rfl⟩
theorem IT.In.top {w : World} {t : IT} (h : t.In w) : t = .nil ∨ ∃ b, t.ptr = some ⟨b, 0, none⟩ ∧ w.cell? ⟨b, 3, none⟩ = some (.int .i64 t.ht) := by
  cases t with
  | nil => exact .inl rfl
  | node b s hh m l r => exact .inr ⟨b, rfl, h.1.cell 3⟩
set_option maxHeartbeats 400000 in
theorem recalc_calls (b : Nat) (s : Sp) (h m : Int) (l r : IT) (w : World) (hb : Blk w b (cellsI s h m l r) 178) (hl : l.In w) (hr : r.In w) (h0 : -1000000000000 ≤ max l.ht r.ht) (h1 : max l.ht r.ht ≤ 1000000000000) :
    Calls Try.prog 127 #[.pointer (some ⟨b, 0, none⟩)] w fun e w' => e = .returned (.tuple #[]) ∧ ∃ n, w' = (w.setCell ⟨b, 3, none⟩ (.int .i64 (htOf l r))).drewN n := by
  obtain ⟨⟨c0, c1, c2, c3, c4, c5, c6⟩, hf⟩ := node_cells hb
  have HL := IT.In.top hl
  have HR := IT.In.top hr
  clear hb hl hr
  generalize hml : max l.ht r.ht = mm at *
  have Hm := Lib.hid hml
  clear hml
  go_enter Try.func127, Try.ntmps127
  go_wp2_with fail
  go_region_with (first
    | (go_at_call_of 107 (l.ptr); refine (getHeight_calls l _ rfl _ (by exact HL)).mono ?_; rintro e w1 ⟨rfl, rfl⟩)
    | (go_at_call_of 107 (r.ptr); refine (getHeight_calls r _ rfl _ (by exact HR)).mono ?_; rintro e w1 ⟨rfl, rfl⟩)
    | (go_at_call 135; refine (max_calls _ _ _).mono ?_; rintro e w1 ⟨rfl, rfl⟩; rw [Hm.out]))
  all_goals
    go_wp2
    go_end0
    exact ⟨rfl, 1, by rw [show htOf l r = IntKind.i64.wrap (1 + mm) by unfold htOf; rw [Hm.out]; exact (IntWalk.i64_in _ (by omega)).symm]; rfl⟩
/-- what updateMax asks of a part. -/
def MxAt (w : World) (t : IT) : Prop := t = .nil ∨ ∃ b s h m l r, t = .node b s h m l r ∧ w.cell? ⟨b, 6, none⟩ = some (.int .i64 m)
theorem IT.In.mx {w : World} {t : IT} (h : t.In w) : MxAt w t := by
  cases t with
  | nil => exact .inl rfl
  | node b s hh m l r => exact .inr ⟨b, s, hh, m, l, r, rfl, h.1.cell 6⟩
set_option maxHeartbeats 800000 in
theorem upd_calls (b : Nat) (s : Sp) (h m : Int) (l r : IT) (w : World) (hb : Blk w b (cellsI s h m l r) 178) (hl : l.In w) (hr : r.In w) (nl : b ∉ l.ids) (nr : b ∉ r.ids) :
    Calls Try.prog 128 #[.pointer (some ⟨b, 0, none⟩)] w fun e w' => e = .returned (.tuple #[]) ∧ Blk w' b (cellsI s h (mxOf s.hi l r) l r) 178 ∧ Fr [b] w w' := by
  obtain ⟨⟨c0, c1, c2, c3, c4, c5, c6⟩, hf⟩ := node_cells hb
  have HB := Lib.hid hb
  have nlr : (∀ c1 s1 h1 m1 l1 r1, l = .node c1 s1 h1 m1 l1 r1 → b ≠ c1) ∧ (∀ c1 s1 h1 m1 l1 r1, r = .node c1 s1 h1 m1 l1 r1 → b ≠ c1) := by
    refine ⟨?_, ?_⟩
    · rintro c1 s1 h1 m1 l1 r1 rfl rfl
      exact nl (List.mem_cons_self ..)
    · rintro c1 s1 h1 m1 l1 r1 rfl rfl
      exact nr (List.mem_cons_self ..)
  have ML := IT.In.mx hl
  have MR := IT.In.mx hr
  clear hb hl hr nl nr
  obtain ⟨nl, nr⟩ := nlr
  rcases ML with rfl | ⟨cl, sl, hl, ml, ll, rl, rfl, ql⟩ <;> rcases MR with rfl | ⟨cr, sr, hr, mr, lr, rr, rfl, qr⟩
  all_goals
    try have nl := nl _ _ _ _ _ _ rfl
    try have nr := nr _ _ _ _ _ _ rfl
    try have nl' := Ne.symm nl
    try have nr' := Ne.symm nr
    simp only [IT.ptr] at c4 c5
    go_enter Try.func128, Try.ntmps128
    go_upto_if 16 with (fail)
    skip
  · go_wp2_with fail
    go_end0
    exact ⟨rfl, set_m HB.out _, Fr.setCell _ _ _ _ (by simp)⟩
  · go_cut [] (fun wx => wx = ((w.setCell ⟨b, 6, none⟩ (.int .i64 s.hi)).setCell ⟨b, 6, none⟩ (.int .i64 (max s.hi mr))).drew)
    case first =>
      go_wp2_with fail
      go_region_with (go_at_call 135; refine (max_calls _ _ _).mono ?_; rintro e w1 ⟨rfl, rfl⟩)
      all_goals
        go_wp2_with fail
        go_meet
        exact rfl
    case rest =>
    rw [hcut]
    clear hcut
    go_wp2_with fail
    go_end0
    exact ⟨rfl, (set_m (set_m HB.out _) _).drewN 1, ((Fr.setCell _ _ _ _ (by simp)).comp (Fr.setCell _ _ _ _ (by simp))).comp (Fr.drewN _ _ 1)⟩
  · go_wp2_with fail
    go_region_with (go_at_call 135; refine (max_calls _ _ _).mono ?_; rintro e w1 ⟨rfl, rfl⟩)
    all_goals
      go_wp2_with fail
      go_end0
      exact ⟨rfl, (set_m (set_m HB.out _) _).drewN 1, ((Fr.setCell _ _ _ _ (by simp)).comp (Fr.setCell _ _ _ _ (by simp))).comp (Fr.drewN _ _ 1)⟩
  · go_cut [] (fun wx => wx = ((w.setCell ⟨b, 6, none⟩ (.int .i64 s.hi)).setCell ⟨b, 6, none⟩ (.int .i64 (max s.hi mr))).drew)
    case first =>
      go_wp2_with fail
      go_region_with (go_at_call 135; refine (max_calls _ _ _).mono ?_; rintro e w1 ⟨rfl, rfl⟩)
      all_goals
        go_wp2_with fail
        go_meet
        exact rfl
    case rest =>
    rw [hcut]
    clear hcut
    go_wp2_with fail
    go_region_with (go_at_call 135; refine (max_calls _ _ _).mono ?_; rintro e w1 ⟨rfl, rfl⟩)
    all_goals
      go_wp2_with fail
      go_end0
      rw [show mxOf s.hi (IT.node cl sl hl ml ll rl) (IT.node cr sr hr mr lr rr) = max s.hi (max mr ml) by simp only [mxOf, IT.mxl]; omega]
      exact ⟨rfl, (set_m (set_m (set_m HB.out _) _) _).drewN 2, (((Fr.setCell _ _ _ _ (by simp)).comp (Fr.setCell _ _ _ _ (by simp))).comp (Fr.setCell _ _ _ _ (by simp))).comp (Fr.drewN _ _ 2)⟩
end Go.Proofs.Ytomclflknjkhfaa
