/- AVL trees as data: zzShape. -/
import Derived.Test.YtpnmgfiifaljjaaAvl9
import Derived.Test.YtpnmgfiifaljjaaRow
import Derived.Test.YtpnmgfiifaljjaaEach0
import Derived.Deep.RegionHeld3
import Derived.Deep.DrawnRows
namespace Go.Proofs.Ytpnmgfiifaljjaa
open Go.RowKit
attribute [local go_sem ↓] Go.wp_at_zero Go.wp_at_succ

theorem own_form {w : World} {B : Nat} {T : TypeId} {s n : Nat} {v : Value} {xs : List Value} (h : w.ownsRow B T s v n xs) : ∃ A c, v = .slice A n c := by
  rcases h.2 with ⟨e, h0⟩ | ⟨g, cap, cur, e, _⟩
  · subst h0; exact ⟨_, _, e⟩
  · exact ⟨_, _, e⟩
/-- a node as data. -/
structure BrD where
  key : Int
  val : Int
  ht : Int
  l : Bool
  r : Bool
def brCells (a : BrD) : List Value := [.int .i64 a.key, .int .i64 a.val, .int .i64 a.ht, .bool a.l, .bool a.r]
theorem brCells_len (a : BrD) : (brCells a).length = 5 := rfl
def AT.shape : AT → List BrD
  | .nil => []
  | .node _ k v h l r => ⟨k, valI v, h, l.ptr.isSome, r.ptr.isSome⟩ :: (l.shape ++ r.shape)
theorem AT.shape_len : ∀ t : AT, t.shape.length = t.ids.length
  | .nil => rfl
  | .node _ _ _ _ l r => by simp [AT.shape, AT.ids, shape_len l, shape_len r]
theorem Try.infoZz : (Try.prog.info? 94).map (fun i => (i.zero, i.size, i.bytes)) = some (some (.agg #[.int .i64 0, .int .i64 0, .int .i64 0, .bool false, .bool false]), 5, 32) := by kernel_rfl
theorem Try.infoBr : (Try.prog.info? 47).map (fun i => (i.zero, i.size, i.bytes)) = some (some (.agg #[.int .i64 0, .int .i64 0, .int .i64 0, .bool false, .bool false]), 5, 32) := by kernel_rfl
set_option maxRecDepth 100000 in
set_option maxHeartbeats 3200000 in
theorem zzShape_calls (B : Nat) : ∀ (t : AT) (l0 : List BrD) (v : Value) (w : World), t.In w → t.Vs → (∀ x ∈ t.ids, x < B) → B ≤ w.heap.size → l0.length + t.ids.length ≤ 100000000000 → w.ownsRow B 94 5 v l0.length (l0.flatMap brCells) →
    Calls Try.prog 78 #[.pointer t.ptr, v] w fun e w' => ∃ v', e = .returned v' ∧ w'.ownsRow B 94 5 v' (l0 ++ t.shape).length ((l0 ++ t.shape).flatMap brCells) ∧ Below B w w' := by
  intro t
  induction t with
  | nil =>
    intro l0 v w _ _ _ _ _ ho
    show Calls _ _ #[.pointer none, _] _ _
    go_enter Try.func78, Try.ntmps78
    go_wp2
    go_ret
    exact ⟨_, rfl, by simpa [AT.shape] using ho, Below.refl _ _⟩
  | node b1 k v1 h l r ihl ihr =>
    intro l0 v w hi hv hb hB hsz ho
    obtain ⟨x, rfl⟩ := hv.1
    obtain ⟨i0, hi0, hz0, hz1, hz2⟩ := info_parts Try.infoZz
    obtain ⟨A, c, rfl⟩ := own_form ho
    obtain ⟨⟨p0, p1, p2, p3, p4⟩, pf⟩ := node_cells hi.1
    show Calls _ _ #[.pointer (some ⟨b1, 0, none⟩), _] _ _
    simp only [AT.ids, List.length_cons, List.length_append] at hsz
    go_enter Try.func78, Try.ntmps78
    go_wp2_with fail
    have hne : some b1 ≠ (Value.slice A l0.length c).ownBlock := fun e => by
      have h1 := (ho.lt _ e.symm).1
      have h2 := hb b1 (List.mem_cons_self ..)
      omega
    have hi1 := hi.1
    have HI := Lib.hid hi
    clear hi
    go_region_held3 (fun w' => w'.cell? ⟨b1, 0, none⟩ = some (.int .i64 k) ∧ w'.cell? ⟨b1, 1, none⟩ = some (.int .i64 x) ∧ w'.cell? ⟨b1, 2, none⟩ = some (.int .i64 h) ∧ w'.cell? ⟨b1, 3, none⟩ = some (.pointer l.ptr) ∧ w'.cell? ⟨b1, 4, none⟩ = some (.pointer r.ptr))
      (first | exact (node_cells hi1).1 | exact (node_cells (hi1.alloc _)).1 | exact (node_cells ((show Blk _ b1 _ _ from Blk.drew (hi1.alloc _)).grown hgrow hne)).1 | exact (node_cells ((show Blk _ b1 _ _ from Blk.drew (Blk.drew (hi1.alloc _))).grown hgrow hne)).1)
      ((refine step_append_lies _ (by rfl) (.tmp 8) (.tmp 32) 92 (by rfl) B 94 i0 _ 5 32 Try.underlying92 hi0 hz0 hz1 hz2 rfl (by omega) (.slice A l0.length c) l0.length (l0.flatMap brCells) (by rfl) (by exact ho.alloc _) _ 1 1 (brCells ⟨k, x, h, l.ptr.isSome, r.ptr.isSome⟩) (by rfl) (by rfl) (by exact news_blk (Blk.new w _ _)) (by simp [brCells, Value.oneCell']) (by omega) (by unfold maxLen; omega) (by omega) (by show B ≤ (w.alloc _).heap.size; simp; omega) _ (by rfl) ?_; intro gg cap w1 hown1 hgrow hat hlt1))
    have hb1 : b1 < B := hb b1 (List.mem_cons_self ..)
    have B1 : Below B w w1 := (((Below.refl _ w).alloc hB _).trans (Below.drewN _ 1)).grown hgrow (by show B ≤ (w.alloc _).heap.size; simp; omega) (fun g hg => (ho.lt g hg).1)
    have hbb : ∀ y ∈ (AT.node b1 k (.int .i64 x) h l r).ids, y < B ∧ y ∉ ([] : List Nat) := fun y hy => ⟨hb y hy, by simp⟩
    have I1 : (AT.node b1 k (.int .i64 x) h l r).In w1 := HI.out.frB (FrB.of_below (S := []) B1) hbb
    have hl : ∀ y ∈ l.ids, y < B := fun y hy => hb y (List.mem_cons_of_mem _ (List.mem_append_left _ hy))
    have hr : ∀ y ∈ r.ids, y < B := fun y hy => hb y (List.mem_cons_of_mem _ (List.mem_append_right _ hy))
    have ho1 : w1.drew.ownsRow B 94 5 (.slice (some ⟨gg, 0, none⟩) (l0.length + 1) cap) (l0 ++ [BrD.mk k x h l.ptr.isSome r.ptr.isSome]).length ((l0 ++ [BrD.mk k x h l.ptr.isSome r.ptr.isSome]).flatMap brCells) := by
      rw [flat_snoc, List.length_append]; exact hown1
    have sl := l.shape_len
    have B1' : B ≤ w1.drew.heap.size := Nat.le_trans hB B1.size
    have HL := Lib.hid (ihl (l0 ++ [BrD.mk k x h l.ptr.isSome r.ptr.isSome]) _ w1.drew (I1.2.1.drewN 1) hv.2.1 hl B1' (by simp; omega) ho1)
    have HR := Lib.hid (fun v w' hi' hB' => ihr ((l0 ++ [BrD.mk k x h l.ptr.isSome r.ptr.isSome]) ++ l.shape) v w' hi' hv.2.2 hr hB' (by simp; omega))
    have C1 : Blk w1.drew b1 (cellsN k (.int .i64 x) h l r) 104 := I1.1
    have IR : r.In w1.drew := I1.2.2.drewN 1
    have HRB := Lib.hid hr
    clear ihl ihr hown1 hgrow hat ho1 hi1 p0 p1 p2 p3 p4 pf hne ho hb hv HI hbb I1 hl hr sl
    go_wp2_with fail
    go_region_held3 (fun w' => w'.cell? ⟨b1, 0, none⟩ = some (.int .i64 k) ∧ w'.cell? ⟨b1, 1, none⟩ = some (.int .i64 x) ∧ w'.cell? ⟨b1, 2, none⟩ = some (.int .i64 h) ∧ w'.cell? ⟨b1, 3, none⟩ = some (.pointer l.ptr) ∧ w'.cell? ⟨b1, 4, none⟩ = some (.pointer r.ptr))
      (first | exact (node_cells C1).1 | exact (node_cells (C1.below hb2 hb1)).1 | exact (node_cells ((C1.below hb2 hb1).below hb3 hb1)).1)
      (first
        | (go_at_call_of 78 (l.ptr); refine HL.out.mono ?_; rintro e w2 ⟨v2, rfl, ho2, hb2⟩)
        | (go_at_call 78; refine (HR.out _ _ (IR.frB (FrB.of_below (S := []) hb2) (fun y hy => ⟨HRB.out y hy, by simp⟩)) (Nat.le_trans B1' hb2.size) ho2).mono ?_; rintro e w3 ⟨v3, rfl, ho3, hb3⟩))
    go_wp2_with fail
    go_ret
    refine ⟨_, rfl, ?_, B1.trans ((Below.drewN w1 1).trans (hb2.trans hb3))⟩
    have e : l0 ++ (AT.node b1 k (.int .i64 x) h l r).shape = ((l0 ++ [BrD.mk k x h l.ptr.isSome r.ptr.isSome]) ++ l.shape) ++ r.shape := by simp [AT.shape, valI]
    rw [e]
    exact ho3
end Go.Proofs.Ytpnmgfiifaljjaa
