/- AVL trees in memory: the walk over all entries (each, with the function that appends them), the tree's methods. -/
import Derived.Test.YtjbelfbfhcmgeaaAvl5
import Derived.Test.YtjbelfbfhcmgeaaEach0
namespace Go.Proofs.Ytjbelfbfhcmgeaa
open Go.RowKit

def valI : Value → Int
  | .int _ n => n
  | _ => 0
def AT.keys : AT → List Int
  | .nil => []
  | .node _ k _ _ l r => l.keys ++ k :: r.keys
def AT.vals : AT → List Int
  | .nil => []
  | .node _ _ v _ l r => l.vals ++ valI v :: r.vals
theorem AT.keys_len : ∀ t : AT, t.keys.length = t.ids.length
  | .nil => rfl
  | .node _ _ _ _ l r => by simp [AT.keys, AT.ids, AT.keys_len l, AT.keys_len r]; omega
theorem AT.vals_len : ∀ t : AT, t.vals.length = t.ids.length
  | .nil => rfl
  | .node _ _ _ _ l r => by simp [AT.vals, AT.ids, AT.vals_len l, AT.vals_len r]; omega
theorem AT.In.frB {w w' : World} {B : Nat} {S : List Nat} (hf : FrB B S w w') : ∀ {t : AT}, t.In w → (∀ x ∈ t.ids, x < B ∧ x ∉ S) → t.In w'
  | .nil, _, _ => trivial
  | .node _ _ _ _ _ _, ⟨h1, h2, h3⟩, hn => ⟨h1.frB hf (hn _ (List.mem_cons_self ..)).1 (hn _ (List.mem_cons_self ..)).2, AT.In.frB hf h2 (fun x hx => hn x (List.mem_cons_of_mem _ (List.mem_append_left _ hx))), AT.In.frB hf h3 (fun x hx => hn x (List.mem_cons_of_mem _ (List.mem_append_right _ hx)))⟩
theorem Tell.drewN {w : World} {base xb : Nat} {n : Int} {b : Bool} {ks vs : List Int} {ka va : Option Addr} {kc vc : Nat} (h : Tell w base xb n b ks vs ka kc va vc) (m : Nat) : Tell (w.drewN m) base xb n b ks vs ka kc va vc :=
  ⟨h.blk, h.keys, h.vals, h.lt, h.le, h.apart⟩
def TellX (w : World) (base xb : Nat) (n : Int) (b : Bool) (ks vs : List Int) : Prop := ∃ ka kc va vc, Tell w base xb n b ks vs ka kc va vc
set_option maxRecDepth 100000 in
set_option maxHeartbeats 1000000 in
theorem each_calls (base xb : Nat) (n : Int) (b : Bool) : ∀ (t : AT) (ks vs : List Int) (w : World), t.In w → t.Vs → (∀ x ∈ t.ids, x < base ∧ x ∉ [xb]) → TellX w base xb n b ks vs → ks.length + t.ids.length ≤ 100000000000 → vs.length + t.ids.length ≤ 100000000000 →
    Calls Try.prog 67 #[.pointer t.ptr, .func (.func 54) #[] #[.pointer (some ⟨xb, 0, none⟩)]] w fun e w' => e = .returned (.tuple #[]) ∧ TellX w' base xb n b (ks ++ t.keys) (vs ++ t.vals) ∧ FrB base [xb] w w' := by
  intro t
  induction t with
  | nil =>
    intro ks vs w _ _ _ hx _ _
    show Calls _ _ #[.pointer none, _] _ _
    go_enter Try.func67, Try.ntmps67
    go_wp2
    refine bodyPost_ret (results_none rfl _ _ _) rfl ?_
    exact ⟨rfl, by simpa [AT.keys, AT.vals] using hx, FrB.refl _ _ _⟩
  | node b1 k v h l r ihl ihr =>
    intro ks vs w hi hv hb hx h1 h2
    obtain ⟨x, rfl⟩ := hv.1
    obtain ⟨⟨p0, p1, p2, p3, p4⟩, pf⟩ := node_cells hi.1
    show Calls _ _ #[.pointer (some ⟨b1, 0, none⟩), _] _ _
    have e1 : ks ++ (AT.node b1 k (.int .i64 x) h l r).keys = ((ks ++ l.keys) ++ [k]) ++ r.keys := by simp [AT.keys]
    have e2 : vs ++ (AT.node b1 k (.int .i64 x) h l r).vals = ((vs ++ l.vals) ++ [x]) ++ r.vals := by simp [AT.vals, valI]
    rw [e1, e2]
    clear e1 e2
    simp only [AT.ids, List.length_cons, List.length_append] at h1 h2
    have kl := l.keys_len
    have vl := l.vals_len
    have hbl : ∀ y ∈ l.ids, y < base ∧ y ∉ [xb] := fun y hy => hb y (List.mem_cons_of_mem _ (List.mem_append_left _ hy))
    have hbr : ∀ y ∈ r.ids, y < base ∧ y ∉ [xb] := fun y hy => hb y (List.mem_cons_of_mem _ (List.mem_append_right _ hy))
    have hb1 := hb b1 (List.mem_cons_self ..)
    have IHL := Lib.hid (ihl ks vs w hi.2.1 hv.2.1 hbl hx (by omega) (by omega))
    have IHR := Lib.hid (ihr ((ks ++ l.keys) ++ [k]) ((vs ++ l.vals) ++ [x]))
    have K1 := Lib.hid (show (ks ++ l.keys).length + 1 + r.ids.length ≤ 100000000000 by rw [List.length_append]; omega)
    have K2 := Lib.hid (show (vs ++ l.vals).length + 1 + r.ids.length ≤ 100000000000 by rw [List.length_append]; omega)
    have HI := Lib.hid hi
    have HR := Lib.hid hbr
    have HB := Lib.hid hb
    clear ihl ihr kl vl hi hbl hbr hb h1 h2
    go_enter Try.func67, Try.ntmps67
    go_wp2_with fail
    refine IHL.out.mono ?_
    rintro e w1 ⟨rfl, hx1, hF1⟩
    have I1 := HI.out.frB hF1 HB.out
    clear p0 p1 p2 p3 p4 pf
    obtain ⟨⟨p0, p1, p2, p3, p4⟩, pf⟩ := node_cells I1.1
    obtain ⟨ka, kc, va, vc, hT⟩ := hx1
    go_wp2_with fail
    go_still_tail 9, (by kernel_rfl)
    change wpList _ _ _ _ _ (w1.drewN 1)
    go_wp2_with fail
    refine (put_calls base xb n b _ _ ka va kc vc k x _ (hT.drewN 1) (by have := K1.out; omega) (by have := K2.out; omega)).mono ?_
    rintro e w2 ⟨rfl, hx2, hF2'⟩
    have hF2 : FrB base [xb] w1 w2 := (FrB.of_below (Below.drewN w1 1)).trans hF2'
    have I2 := I1.frB hF2 HB.out
    clear p0 p1 p2 p3 p4 pf
    obtain ⟨⟨p0, p1, p2, p3, p4⟩, pf⟩ := node_cells I2.1
    go_wp2_with fail
    refine (IHR.out w2 I2.2.2 hv.2.2 HR.out hx2 (by have := K1.out; rw [List.length_append, List.length_singleton]; omega) (by have := K2.out; rw [List.length_append, List.length_singleton]; omega)).mono ?_
    rintro e w3 ⟨rfl, hx3, hF3⟩
    go_wp2
    go_end0
    exact ⟨rfl, hx3, (hF1.trans hF2).trans hF3⟩
/-- the tree's own block: the root, and the order. -/
def TreeAt (w : World) (tb : Nat) (t : AT) (f : Value) : Prop := Blk w tb #[.pointer t.ptr, f] 97
set_option maxHeartbeats 1000000 in
theorem tree_put (xs : List Int) (f : Value) (B tb : Nat) (k x : Int) (t : AT) (w : World) (ht : TreeAt w tb t f) (hi : t.In w) (hn : t.ids.Nodup) (ok : t.Ok) (hs : t.ids.length ≤ 10000000000) (hf : LessOk w B f xs) (hB : ∀ i ∈ t.ids, B ≤ i) (hB2 : B ≤ w.heap.size) (htb : tb ∉ t.ids) :
    Calls Try.prog 49 #[.pointer (some ⟨tb, 0, none⟩), .int .i64 k, .int .i64 x] w fun e w' => e = .returned (.tuple #[]) ∧ TreeAt w' tb (t.add xs k (.int .i64 x) w.heap.size) f ∧ (t.add xs k (.int .i64 x) w.heap.size).In w' ∧ Fr (tb :: t.ids) w w' := by
  obtain ⟨g, hg⟩ : ∃ fn fi ca, f = .func fn fi ca := by obtain ⟨_, _, rfl, _⟩ := hf; exact ⟨_, _, _, rfl⟩
  obtain ⟨fi, ca, rfl⟩ := hg
  have c0 : w.cell? ⟨tb, 0, none⟩ = some (.pointer t.ptr) := ht.cell 0
  have c1 : w.cell? ⟨tb, 1, none⟩ = some (.func g fi ca) := ht.cell 1
  have htl := ht.lt
  have hdr : ∀ wx, (∃ n, wx = w.drewN n) → Calls Try.prog 63 #[.pointer t.ptr, .int .i64 k, .int .i64 x, .func g fi ca] wx fun e w3 => e = .returned (.pointer (t.add xs k (.int .i64 x) w.heap.size).ptr) ∧ (Blk w3 tb #[.pointer t.ptr, .func g fi ca] 97 ∧ (t.add xs k (.int .i64 x) w.heap.size).In w3 ∧ Fr t.ids w w3) := by
    rintro wx ⟨n, rfl⟩
    refine (add_calls xs _ B k x t _ (hi.drewN n) hn ok hs (hf.below (Below.drewN w n)) hB hB2).mono ?_
    rintro e w3 ⟨rfl, hT, hF⟩
    have hF' : Fr t.ids w w3 := (Fr.drewN _ _ _).comp hF
    exact ⟨rfl, ht.fr hF' htb, hT, hF'⟩
  have HDR := Lib.hid hdr
  have HN : tb ∉ (t.add xs k (.int .i64 x) w.heap.size).ids := fun hx => (add_ids xs k (.int .i64 x) w.heap.size t).elim (fun hp => htb (hp.mem_iff.1 hx)) (fun hp => (List.mem_cons.1 (hp.mem_iff.1 hx)).elim (fun e => by omega) htb)
  clear hdr ht hi hf
  go_enter Try.func49, Try.ntmps49
  go_wp2_with fail
  go_region_with (go_at_call 63; refine (HDR.out _ ⟨1, rfl⟩).mono ?_; rintro e w3 ⟨rfl, B3, hT, F3⟩; have u0 := B3.cell 0; have uf := B3.frozen)
  all_goals
    have B4 : TreeAt (w3.setCell ⟨tb, 0, none⟩ (.pointer (t.add xs k (.int .i64 x) w.heap.size).ptr)) tb (t.add xs k (.int .i64 x) w.heap.size) (.func g fi ca) := B3.set 0 _
    have T4 := hT.set 0 (.pointer (t.add xs k (.int .i64 x) w.heap.size).ptr) HN
    have F4 : Fr (tb :: t.ids) w (w3.setCell ⟨tb, 0, none⟩ (.pointer (t.add xs k (.int .i64 x) w.heap.size).ptr)) := (F3.mono (fun y hy => .inl (List.mem_cons_of_mem _ hy))).comp (Fr.setCell _ tb 0 _ (List.mem_cons_self ..))
    go_wp2
    go_end0
    exact ⟨rfl, B4, T4, F4⟩
set_option maxHeartbeats 1000000 in
theorem tree_remove (xs : List Int) (f : Value) (B tb : Nat) (k : Int) (t : AT) (w : World) (ht : TreeAt w tb t f) (hi : t.In w) (hn : t.ids.Nodup) (ok : t.Ok) (vs : t.Vs) (hs : t.ids.length ≤ 10000000000) (hf : LessOk w B f xs) (hB : ∀ i ∈ t.ids, B ≤ i) (hB2 : B ≤ w.heap.size) (htb : tb ∉ t.ids) :
    Calls Try.prog 50 #[.pointer (some ⟨tb, 0, none⟩), .int .i64 k] w fun e w' => e = .returned (.tuple #[]) ∧ TreeAt w' tb (t.rem xs k) f ∧ (t.rem xs k).In w' ∧ Fr (tb :: t.ids) w w' := by
  obtain ⟨g, hg⟩ : ∃ fn fi ca, f = .func fn fi ca := by obtain ⟨_, _, rfl, _⟩ := hf; exact ⟨_, _, _, rfl⟩
  obtain ⟨fi, ca, rfl⟩ := hg
  have c0 : w.cell? ⟨tb, 0, none⟩ = some (.pointer t.ptr) := ht.cell 0
  have c1 : w.cell? ⟨tb, 1, none⟩ = some (.func g fi ca) := ht.cell 1
  have htl := ht.lt
  have hdr : ∀ wx, (∃ n, wx = w.drewN n) → Calls Try.prog 64 #[.pointer t.ptr, .int .i64 k, .func g fi ca] wx fun e w3 => e = .returned (.pointer (t.rem xs k).ptr) ∧ (Blk w3 tb #[.pointer t.ptr, .func g fi ca] 97 ∧ (t.rem xs k).In w3 ∧ Fr t.ids w w3) := by
    rintro wx ⟨n, rfl⟩
    refine (rem_calls xs _ B t k _ (hi.drewN n) hn ok vs hs (hf.below (Below.drewN w n)) hB hB2).mono ?_
    rintro e w3 ⟨rfl, hT, hF⟩
    have hF' : Fr t.ids w w3 := (Fr.drewN _ _ _).comp hF
    exact ⟨rfl, ht.fr hF' htb, hT, hF'⟩
  have HDR := Lib.hid hdr
  have HN : tb ∉ (t.rem xs k).ids := fun hx => by obtain ⟨L, hp⟩ := rem_ids xs t k; exact htb (hp.mem_iff.1 (List.mem_append_right _ hx))
  clear hdr ht hi hf
  go_enter Try.func50, Try.ntmps50
  go_wp2_with fail
  go_region_with (go_at_call 64; refine (HDR.out _ ⟨1, rfl⟩).mono ?_; rintro e w3 ⟨rfl, B3, hT, F3⟩; have u0 := B3.cell 0; have uf := B3.frozen)
  all_goals
    have B4 : TreeAt (w3.setCell ⟨tb, 0, none⟩ (.pointer (t.rem xs k).ptr)) tb (t.rem xs k) (.func g fi ca) := B3.set 0 _
    have T4 := hT.set 0 (.pointer (t.rem xs k).ptr) HN
    have F4 : Fr (tb :: t.ids) w (w3.setCell ⟨tb, 0, none⟩ (.pointer (t.rem xs k).ptr)) := (F3.mono (fun y hy => .inl (List.mem_cons_of_mem _ hy))).comp (Fr.setCell _ tb 0 _ (List.mem_cons_self ..))
    go_wp2
    go_end0
    exact ⟨rfl, B4, T4, F4⟩
/-- what Get tells. -/
def AT.get (xs : List Int) (k : Int) (t : AT) : Int × Bool :=
  match t.find xs k with
  | .nil => (0, false)
  | .node _ _ v _ _ _ => (valI v, true)
set_option maxHeartbeats 1000000 in
theorem tree_get (xs : List Int) (f : Value) (B tb : Nat) (k : Int) (t : AT) (w : World) (ht : TreeAt w tb t f) (hi : t.In w) (vs : t.Vs) (hf : LessOk w B f xs) :
    Calls Try.prog 51 #[.pointer (some ⟨tb, 0, none⟩), .int .i64 k] w fun e w' => e = .returned (.tuple #[.int .i64 (t.get xs k).1, .bool (t.get xs k).2]) ∧ ∃ n, w' = w.drewN n := by
  obtain ⟨g, hg⟩ : ∃ fn fi ca, f = .func fn fi ca := by obtain ⟨_, _, rfl, _⟩ := hf; exact ⟨_, _, _, rfl⟩
  obtain ⟨fi, ca, rfl⟩ := hg
  have c0 : w.cell? ⟨tb, 0, none⟩ = some (.pointer t.ptr) := ht.cell 0
  have c1 : w.cell? ⟨tb, 1, none⟩ = some (.func g fi ca) := ht.cell 1
  have hsr : ∀ n, Calls Try.prog 65 #[.pointer t.ptr, .int .i64 k, .func g fi ca] (w.drewN n) fun e w' => e = .returned (.pointer (t.find xs k).ptr) ∧ ∃ m, w' = (w.drewN n).drewN m := fun n => search_calls xs _ B k t _ (hi.drewN n) (hf.below (Below.drewN w n))
  have fi2 := AT.find_in xs k hi
  have fv := AT.find_vs xs k vs
  unfold AT.get
  clear hf
  generalize t.find xs k = r at *
  cases r with
  | nil =>
    have HS := Lib.hid hsr
    clear hsr
    simp only [show AT.nil.ptr = Option.none from rfl] at HS
    go_enter Try.func51, Try.ntmps51
    go_wp2_with fail
    go_quiet ((go_at_call 65; exact Calls.quiet_of (HS.out _)))
    go_wp2
    go_ret2
    exact ⟨rfl, _, rfl⟩
  | node b k2 v h l r =>
    obtain ⟨x, rfl⟩ := fv.1
    obtain ⟨⟨p0, p1, p2, p3, p4⟩, pf⟩ := node_cells fi2.1
    have HS := Lib.hid hsr
    clear hsr
    simp only [show (AT.node b k2 (.int .i64 x) h l r).ptr = some ⟨b, 0, Option.none⟩ from rfl] at HS
    simp only [valI]
    go_enter Try.func51, Try.ntmps51
    go_wp2_with fail
    go_quiet ((go_at_call 65; exact Calls.quiet_of (HS.out _)))
    go_wp2
    go_ret2
    exact ⟨rfl, _, rfl⟩
theorem tree_size (f : Value) (tb : Nat) (t : AT) (w : World) (ht : TreeAt w tb t f) (hi : t.In w) (hs : t.ids.length ≤ 20000000000) :
    Calls Try.prog 52 #[.pointer (some ⟨tb, 0, none⟩)] w fun e w' => e = .returned (.int .i64 t.ids.length) ∧ ∃ n, w' = w.drewN n := by
  have c0 : w.cell? ⟨tb, 0, none⟩ = some (.pointer t.ptr) := ht.cell 0
  have H := Lib.hid (size_calls t w hi hs)
  go_enter Try.func52, Try.ntmps52
  go_wp2_with fail
  refine H.out.mono ?_
  rintro e w1 ⟨rfl, n, rfl⟩
  go_wp2
  go_ret
  exact ⟨rfl, _, rfl⟩
theorem tree_height (f : Value) (tb : Nat) (t : AT) (w : World) (ht : TreeAt w tb t f) (hi : t.In w) :
    Calls Try.prog 55 #[.pointer (some ⟨tb, 0, none⟩)] w fun e w' => e = .returned (.int .i64 t.ht) ∧ ∃ n, w' = w.drewN n := by
  have c0 : w.cell? ⟨tb, 0, none⟩ = some (.pointer t.ptr) := ht.cell 0
  have H := Lib.hid (getHeight_calls t _ rfl w hi.top)
  clear hi
  go_enter Try.func55, Try.ntmps55
  go_wp2_with fail
  refine H.out.mono ?_
  rintro e w1 ⟨rfl, rfl⟩
  go_wp2
  go_ret
  exact ⟨rfl, 0, rfl⟩
theorem tree_each (f : Value) (tb base xb : Nat) (n : Int) (b : Bool) (t : AT) (ks vs : List Int) (w : World) (ht : TreeAt w tb t f) (hi : t.In w) (hv : t.Vs) (hx : ∀ x ∈ t.ids, x < base ∧ x ∉ [xb]) (hT : TellX w base xb n b ks vs) (h1 : ks.length + t.ids.length ≤ 100000000000) (h2 : vs.length + t.ids.length ≤ 100000000000) :
    Calls Try.prog 53 #[.pointer (some ⟨tb, 0, none⟩), .func (.func 54) #[] #[.pointer (some ⟨xb, 0, none⟩)]] w fun e w' => e = .returned (.tuple #[]) ∧ TellX w' base xb n b (ks ++ t.keys) (vs ++ t.vals) ∧ FrB base [xb] w w' := by
  have c0 : w.cell? ⟨tb, 0, none⟩ = some (.pointer t.ptr) := ht.cell 0
  have H := Lib.hid (each_calls base xb n b t ks vs w hi hv hx hT h1 h2)
  go_enter Try.func53, Try.ntmps53
  go_wp2_with fail
  refine H.out.mono ?_
  rintro e w1 ⟨rfl, h3, h4⟩
  go_wp2
  go_end0
  exact ⟨rfl, h3, h4⟩
end Go.Proofs.Ytjbelfbfhcmgeaa
