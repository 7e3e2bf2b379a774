/- AVL trees in memory: the tree as data with its blocks; heights. -/
import Derived.Test.YtjbelfbfhcmgeaaOrd
import Derived.Deep.RegionWith
import Derived.StillTailTactics
namespace Go.Proofs.Ytjbelfbfhcmgeaa
open Go.RowKit

/-- a tree as it lies in memory: b the node's block, v its value's cell. -/
inductive AT where
  | nil
  | node (b : Nat) (k : Int) (v : Value) (h : Int) (l r : AT)
def AT.ptr : AT → Option Addr
  | .nil => Option.none
  | .node b _ _ _ _ _ => some ⟨b, 0, Option.none⟩
def AT.ht : AT → Int
  | .nil => 0
  | .node _ _ _ h _ _ => h
def AT.ids : AT → List Nat
  | .nil => []
  | .node b _ _ _ l r => b :: (l.ids ++ r.ids)
def cellsN (k : Int) (v : Value) (h : Int) (l r : AT) : Array Value := #[.int .i64 k, v, .int .i64 h, .pointer l.ptr, .pointer r.ptr]
def AT.In (w : World) : AT → Prop
  | .nil => True
  | .node b k v h l r => Blk w b (cellsN k v h l r) 107 ∧ l.In w ∧ r.In w
theorem AT.In.fr {w w' : World} {S : List Nat} (hf : Fr S w w') : ∀ {t : AT}, t.In w → (∀ x ∈ t.ids, x ∉ S) → t.In w'
  | .nil, _, _ => trivial
  | .node _ _ _ _ _ _, ⟨h1, h2, h3⟩, hn => ⟨h1.fr hf (hn _ (List.mem_cons_self ..)), AT.In.fr hf h2 (fun x hx => hn x (List.mem_cons_of_mem _ (List.mem_append_left _ hx))), AT.In.fr hf h3 (fun x hx => hn x (List.mem_cons_of_mem _ (List.mem_append_right _ hx)))⟩
theorem AT.In.lt {w : World} : ∀ {t : AT}, t.In w → ∀ x ∈ t.ids, x < w.heap.size
  | .nil, _, x, hx => by cases hx
  | .node b _ _ _ l r, ⟨h1, h2, h3⟩, x, hx => by
    rcases List.mem_cons.1 hx with rfl | hx
    · exact h1.lt
    · rcases List.mem_append.1 hx with hx | hx
      · exact AT.In.lt h2 x hx
      · exact AT.In.lt h3 x hx
theorem AT.In.set {w : World} {t : AT} (h : t.In w) {b : Nat} (i : Nat) (v : Value) (hn : b ∉ t.ids) : t.In (w.setCell ⟨b, i, none⟩ v) := h.fr (Fr.setCell w b i v (List.mem_singleton.2 rfl)) (fun x hx e => hn (by rw [← List.mem_singleton.1 e]; exact hx))
theorem AT.In.drewN {w : World} (n : Nat) {t : AT} (h : t.In w) : t.In (w.drewN n) := h.fr (Fr.drewN [] w n) (fun _ _ h => by cases h)

/-- a node's five cells, and that they may be written. -/
theorem node_cells {w : World} {b : Nat} {k : Int} {v : Value} {h : Int} {l r : AT} {T : TypeId} (hb : Blk w b (cellsN k v h l r) T) :
    (w.cell? ⟨b, 0, none⟩ = some (.int .i64 k) ∧ w.cell? ⟨b, 1, none⟩ = some v ∧ w.cell? ⟨b, 2, none⟩ = some (.int .i64 h) ∧ w.cell? ⟨b, 3, none⟩ = some (.pointer l.ptr) ∧ w.cell? ⟨b, 4, none⟩ = some (.pointer r.ptr)) ∧ (∀ i, w.frozen? ⟨b, i, none⟩ = false) :=
  ⟨⟨hb.cell 0, hb.cell 1, hb.cell 2, hb.cell 3, hb.cell 4⟩, hb.frozen⟩
theorem far_N {w : World} {b c i : Nat} {cs : Array Value} {T : TypeId} {v : Value} (hb : Blk w b cs T) (hne : b ≠ c) : Blk (w.setCell ⟨c, i, none⟩ v) b cs T := hb.far hne
theorem set_h {w : World} {b : Nat} {k : Int} {v : Value} {h : Int} {l r : AT} {T : TypeId} (hb : Blk w b (cellsN k v h l r) T) (x : Int) : Blk (w.setCell ⟨b, 2, none⟩ (.int .i64 x)) b (cellsN k v x l r) T := hb.set 2 _
theorem set_l {w : World} {b : Nat} {k : Int} {v : Value} {h : Int} {l r : AT} {T : TypeId} (hb : Blk w b (cellsN k v h l r) T) (x : AT) (p : Option Addr) (hp : p = x.ptr) : Blk (w.setCell ⟨b, 3, none⟩ (.pointer p)) b (cellsN k v h x r) T := by subst hp; exact hb.set 3 _
theorem set_r {w : World} {b : Nat} {k : Int} {v : Value} {h : Int} {l r : AT} {T : TypeId} (hb : Blk w b (cellsN k v h l r) T) (x : AT) (p : Option Addr) (hp : p = x.ptr) : Blk (w.setCell ⟨b, 4, none⟩ (.pointer p)) b (cellsN k v h l x) T := by subst hp; exact hb.set 4 _

theorem getHeight_calls (t : AT) (p : Option Addr) (hp : p = t.ptr) (w : World) (hc : t = .nil ∨ ∃ b, t.ptr = some ⟨b, 0, none⟩ ∧ w.cell? ⟨b, 2, none⟩ = some (.int .i64 t.ht)) :
    Calls Try.prog 68 #[.pointer p] w fun e w' => e = .returned (.int .i64 t.ht) ∧ w = w' := by
  subst hp
  rcases hc with rfl | ⟨b, h1, h2⟩
  · show Calls _ _ #[.pointer none] _ _
    go_enter Try.func68, Try.ntmps68
    go_wp2
    go_ret
    exact ⟨rfl, rfl⟩
  · rw [h1]
    generalize t.ht = hh at *
    clear h1
    go_enter Try.func68, Try.ntmps68
    go_wp2
    go_ret
    exact ⟨rfl, rfl⟩
/-- the fact that getHeight wants of a tree that lies in memory. -/
theorem AT.In.top {w : World} {t : AT} (h : t.In w) : t = .nil ∨ ∃ b, t.ptr = some ⟨b, 0, none⟩ ∧ w.cell? ⟨b, 2, none⟩ = some (.int .i64 t.ht) := by
  cases t with
  | nil => exact .inl rfl
  | node b k v hh l r => exact .inr ⟨b, rfl, h.1.cell 2⟩
/-- heights that fit. -/
def htOf (l r : AT) : Int := 1 + max l.ht r.ht
set_option maxHeartbeats 400000 in
theorem recalc_calls (b : Nat) (k : Int) (v : Value) (h : Int) (l r : AT) (w : World) (hb : Blk w b (cellsN k v h l r) 107) (hl : l.In w) (hr : r.In w) (h0 : -1000000000000 ≤ max l.ht r.ht) (h1 : max l.ht r.ht ≤ 1000000000000) :
    Calls Try.prog 73 #[.pointer (some ⟨b, 0, none⟩)] w fun e w' => e = .returned (.tuple #[]) ∧ ∃ n, w' = (w.setCell ⟨b, 2, none⟩ (.int .i64 (htOf l r))).drewN n := by
  obtain ⟨⟨c0, c1, c2, c3, c4⟩, hf⟩ := node_cells hb
  have HL := hl.top
  have HR := hr.top
  clear hb hl hr
  generalize hml : max l.ht r.ht = m at *
  have Hm := Lib.hid hml
  clear hml
  go_enter Try.func73, Try.ntmps73
  go_wp2_with fail
  go_region_with (first
    | (go_at_call_of 68 (l.ptr); refine (getHeight_calls l _ rfl _ (by exact HL)).mono ?_; rintro e w1 ⟨rfl, rfl⟩)
    | (go_at_call_of 68 (r.ptr); refine (getHeight_calls r _ rfl _ (by exact HR)).mono ?_; rintro e w1 ⟨rfl, rfl⟩)
    | (go_at_call 76; refine (max_calls _ _ _).mono ?_; rintro e w1 ⟨rfl, rfl⟩; rw [Hm.out]))
  all_goals
    go_wp2
    go_end0
    exact ⟨rfl, 1, by rw [show htOf l r = IntKind.i64.wrap (1 + m) by unfold htOf; rw [Hm.out]; exact (IntWalk.i64_in _ (by omega)).symm]; rfl⟩
end Go.Proofs.Ytjbelfbfhcmgeaa
