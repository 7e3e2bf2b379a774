/- interval trees: Remove, Get, Overlaps, Each, Size, Height, New. -/
import Derived.Test.YtomclflknjkhfaaItvT
namespace Go.Proofs.Ytomclflknjkhfaa
open Go.RowKit ItP

theorem new_calls (w : World) : Calls Try.prog 44 #[] w fun e w' => e = .returned (.pointer (some ⟨w.heap.size, 0, none⟩)) ∧ TreeW w' w.heap.size .nil ∧ Fr [] w w' := by
  go_enter Try.func44, Try.ntmps44
  go_wp2
  go_ret
  exact ⟨rfl, ⟨Blk.new _ _ _, trivial⟩, Fr.alloc _ _ _⟩
theorem OpMid.plain {w w2 : World} {tb : Nat} {t T : IT} (hw : TreeW w tb t) (hf : Fr t.ids (w.alloc (Obj.cells #[.int .i64 0, .int .i64 0, .int .i64 0] 131)) w2) (hin : T.In w2) : OpMid w tb t T w2 := OpMid.mk' rfl hw (Fr.refl _ _) hf hin
theorem OpMid.fin {w wx : World} {tb : Nat} {t T : IT} (h : OpMid w tb t T wx) (x y z : Int) :
    TreeW ((((wx.setCell ⟨tb, 0, none⟩ (.pointer T.ptr)).setCell ⟨w.heap.size, 0, none⟩ (.int .i64 x)).setCell ⟨w.heap.size, 1, none⟩ (.int .i64 y)).setCell ⟨w.heap.size, 2, none⟩ (.int .i64 z)) tb T ∧
      Fr (tb :: t.ids) w ((((wx.setCell ⟨tb, 0, none⟩ (.pointer T.ptr)).setCell ⟨w.heap.size, 0, none⟩ (.int .i64 x)).setCell ⟨w.heap.size, 1, none⟩ (.int .i64 y)).setCell ⟨w.heap.size, 2, none⟩ (.int .i64 z)) := by
  have hne : tb ≠ w.heap.size := fun e => by have h1 := h.root; rw [e] at h1; exact absurd (Blk.ty h1 h.res) (by decide)
  have t1 : TreeI (wx.setCell ⟨tb, 0, none⟩ (.pointer T.ptr)) tb T := h.root.set 0 _
  have f1 : Fr [tb] wx (wx.setCell ⟨tb, 0, none⟩ (.pointer T.ptr)) := Fr.setCell _ tb 0 _ (by simp)
  have i1 := IT.In.fr f1 h.lies (fun i hi e => by rw [List.mem_singleton.1 e] at hi; exact in_ne h.root (by decide) h.lies hi)
  have f4 : Fr [w.heap.size] (wx.setCell ⟨tb, 0, none⟩ (.pointer T.ptr)) _ :=
    ((Fr.setCell _ w.heap.size 0 (.int .i64 x) (by simp)).comp (Fr.setCell _ w.heap.size 1 (.int .i64 y) (by simp))).comp (Fr.setCell _ w.heap.size 2 (.int .i64 z) (by simp))
  refine ⟨⟨t1.fr f4 (by simpa using hne), IT.In.fr f4 i1 (fun i hi e => by rw [List.mem_singleton.1 e] at hi; exact in_ne h.res (by decide) h.lies hi)⟩, ?_⟩
  exact ((h.fr.mono (fun i hi => .inl (List.mem_cons_of_mem _ hi))).comp (f1.mono (fun i hi => .inl (by rw [List.mem_singleton.1 hi]; simp)))).trans f4 (fun _ h => .inl h) (fun i hx => .inr (by rw [List.mem_singleton.1 hx]; omega))
set_option maxRecDepth 100000 in
set_option maxHeartbeats 3200000 in
theorem tree_remove (tb : Nat) (lo : Int) (t : IT) (w : World) (ht : TreeW w tb t) (hn : t.ids.Nodup) (rt : t.Rt) (hs : t.ids.length ≤ 10000000000) :
    Calls Try.prog 71 #[.pointer (some ⟨tb, 0, none⟩), .int .i64 lo] w fun e w' => e = .returned (.tuple #[kvOf (t.get lo), .bool (t.get lo).isSome]) ∧ TreeW w' tb (t.rem lo) ∧ Fr (tb :: t.ids) w w' := by
  have HT0 := Lib.hid ht
  have HI := Lib.hid (rem_calls t.sz t (Nat.le_refl _) lo (w.alloc (Obj.cells #[.int .i64 0, .int .i64 0, .int .i64 0] 131)) (IT.In.alloc _ ht.lies) hn rt hs)
  obtain ⟨x, y, z, hk⟩ := kv_form (t.get lo)
  have HKV := Lib.hid hk
  have c0 : w.cell? ⟨tb, 0, none⟩ = some (.pointer t.ptr) := ht.at_.cell 0
  have tl := ht.at_.lt
  clear hk ht hn rt hs
  go_enter Try.func71, Try.ntmps71
  go_wp2_with fail
  refine HI.out.mono ?_
  rintro e w2 ⟨rfl, hin, hfr⟩
  rw [HKV.out]
  have hm := OpMid.plain HT0.out hfr hin
  have HM := Lib.hid (hm.fin x y z)
  have r0 : w2.cell? ⟨tb, 0, none⟩ = some (.pointer t.ptr) := hm.root.cell 0
  have rf : ∀ i, w2.frozen? ⟨tb, i, none⟩ = false := hm.root.frozen
  have q0 : w2.cell? ⟨w.heap.size, 0, none⟩ = some (.int .i64 0) := hm.res.cell 0
  have q1 : w2.cell? ⟨w.heap.size, 1, none⟩ = some (.int .i64 0) := hm.res.cell 1
  have q2 : w2.cell? ⟨w.heap.size, 2, none⟩ = some (.int .i64 0) := hm.res.cell 2
  have qf : ∀ i, w2.frozen? ⟨w.heap.size, i, none⟩ = false := hm.res.frozen
  have l1 : tb < w2.heap.size := hm.root.lt
  have l2 : w.heap.size < w2.heap.size := hm.res.lt
  have n2 : ¬ tb = w.heap.size := fun e => absurd (Blk.ty (e ▸ hm.root) hm.res) (by decide)
  have n2' : ¬ w.heap.size = tb := fun e => n2 e.symm
  clear hfr hin hm
  go_wp2_with fail
  refine bodyPost_ret (v := .tuple #[.agg #[.int .i64 x, .int .i64 y, .int .i64 z], .bool (t.get lo).isSome]) (by simp [results, Try.results71, go_sem, q0, q1, q2, l2]) rfl ?_
  obtain ⟨g1, g2⟩ := HM.out
  exact ⟨by rw [HKV.out], g1.fr (Fr.alloc _ _ _), g2.comp (Fr.alloc _ _ _)⟩
set_option maxRecDepth 100000 in
set_option maxHeartbeats 3200000 in
theorem tree_get (tb : Nat) (lo : Int) (t : IT) (w : World) (ht : TreeW w tb t) :
    Calls Try.prog 72 #[.pointer (some ⟨tb, 0, none⟩), .int .i64 lo] w fun e w' => e = .returned (.tuple #[kvOf (t.get lo), .bool (t.get lo).isSome]) ∧ Fr [] w w' := by
  have HI := Lib.hid (search_calls lo t (w.alloc (Obj.cells #[.int .i64 0, .int .i64 0, .int .i64 0] 131)) (IT.In.alloc _ ht.lies))
  have HF := Lib.hid (find_in (lo := lo) (IT.In.alloc (Obj.cells #[.int .i64 0, .int .i64 0, .int .i64 0] 131) ht.lies))
  have F0 := Lib.hid (Fr.alloc [] w (Obj.cells #[.int .i64 0, .int .i64 0, .int .i64 0] 131))
  have c0 : w.cell? ⟨tb, 0, none⟩ = some (.pointer t.ptr) := ht.at_.cell 0
  have tl := ht.at_.lt
  rcases find_get (lo := lo) t with ⟨e1, e2⟩ | ⟨b, s, h, m, l, r, e1, e2⟩
  · rw [e1] at HI
    rw [e2]
    simp only [IT.ptr] at HI
    clear ht e1 e2
    go_enter Try.func72, Try.ntmps72
    go_wp2_with fail
    refine HI.out.mono ?_
    rintro e w2 ⟨rfl, rfl⟩
    go_wp2_with fail
    refine bodyPost_ret (v := .tuple #[kvOf none, .bool false]) (by simp [results, Try.results72, go_sem, kvOf]) rfl ⟨rfl, ?_⟩
    exact F0.out
  · rw [e1] at HI HF
    rw [e2]
    simp only [IT.ptr] at HI
    clear ht e1 e2
    go_enter Try.func72, Try.ntmps72
    go_wp2_with fail
    refine HI.out.mono ?_
    rintro e w2 ⟨rfl, rfl⟩
    go_wp2_with fail
    refine (newKV_calls b s h m l r _ HF.out.1).mono ?_
    rintro e w3 ⟨rfl, f3⟩
    have Q := (Blk.new w #[.int .i64 0, .int .i64 0, .int .i64 0] 131).fr f3 (by simp)
    have q0 : w3.cell? ⟨w.heap.size, 0, none⟩ = some (.int .i64 0) := Q.cell 0
    have q1 : w3.cell? ⟨w.heap.size, 1, none⟩ = some (.int .i64 0) := Q.cell 1
    have q2 : w3.cell? ⟨w.heap.size, 2, none⟩ = some (.int .i64 0) := Q.cell 2
    have qf : ∀ i, w3.frozen? ⟨w.heap.size, i, none⟩ = false := Q.frozen
    simp only [kvOf]
    have HG := Lib.hid (F0.out.comp f3)
    clear f3 Q
    go_wp2_with fail
    refine bodyPost_ret (v := .tuple #[.agg #[.int .i64 s.lo, .int .i64 s.hi, .int .i64 s.v], .bool true]) (by simp [results, Try.results72, go_sem, q0, q1, q2]) rfl ⟨rfl, ?_⟩
    have f4 : Fr [w.heap.size] w3 (((w3.setCell ⟨w.heap.size, 0, none⟩ (.int .i64 s.lo)).setCell ⟨w.heap.size, 1, none⟩ (.int .i64 s.hi)).setCell ⟨w.heap.size, 2, none⟩ (.int .i64 s.v)) :=
      ((Fr.setCell _ _ 0 _ (by simp)).comp (Fr.setCell _ _ 1 _ (by simp))).comp (Fr.setCell _ _ 2 _ (by simp))
    exact HG.out.trans f4 (fun _ h => .inl h) (fun i hx => .inr (by rw [List.mem_singleton.1 hx]; exact Nat.le_refl _))
set_option maxRecDepth 100000 in
set_option maxHeartbeats 3200000 in
theorem tree_overlaps (tb : Nat) (a b : Int) (t : IT) (w : World) (ht : TreeW w tb t) (hs : t.ids.length ≤ 10000000000) (hp : a ≤ b) :
    Calls Try.prog 73 #[.pointer (some ⟨tb, 0, none⟩), .int .i64 a, .int .i64 b] w (OverPost w.heap.size (t.over a b []) w) := by
  have HT := Lib.hid ht
  have HP := Lib.hid hp
  have HC := Lib.hid (fun w1 (f : Fr [] w w1) => over_calls w.heap.size a b t [] (.slice none 0 0) w1 (ht.fr f).lies f.size (World.ownsRow_nil _ _ _ _) (by simpa using hs))
  have c0 : w.cell? ⟨tb, 0, none⟩ = some (.pointer t.ptr) := ht.at_.cell 0
  clear ht hp
  go_enter Try.func73, Try.ntmps73
  go_wp2_with fail
  go_region_with (first
    | (go_at_call 100; refine (newIntrvl_calls _ _ _ HP.out).mono ?_; rintro e w1 ⟨rfl, f1⟩; have c1 : w1.cell? ⟨tb, 0, none⟩ = some (.pointer t.ptr) := ((HT.out.at_.drewN 1).fr f1 (by simp)).cell 0)
    | (go_at_call 104; refine (HC.out _ ((Fr.drewN _ _ 1).comp f1)).mono ?_; rintro e w2 ⟨v2, rfl, ho2, hk2⟩; obtain ⟨A2, n2, rfl⟩ := own_form ho2; have HK := Lib.hid (And.intro ho2 ((KB.fr (T := 131) ((Fr.drewN [] w 1).comp f1) (Nat.le_refl w.heap.size)).trans hk2)); clear ho2 hk2))
  all_goals
    go_wp2_with fail
    go_ret
    exact ⟨_, rfl, HK.out.1, HK.out.2⟩
set_option maxHeartbeats 1000000 in
theorem tree_each (tb base xb : Nat) (t : IT) (xs : List Sp) (w : World) (ht : TreeW w tb t) (hb : ∀ x ∈ t.ids, x < base ∧ x ∉ [xb]) (hx : FndX w base xb xs) (h1 : xs.length + t.ids.length ≤ 100000000000) :
    Calls Try.prog 75 #[.pointer (some ⟨tb, 0, none⟩), .func (.func 76) #[] #[.pointer (some ⟨xb, 0, none⟩)]] w fun e w' => e = .returned (.tuple #[]) ∧ FndX w' base xb (xs ++ t.list) ∧ FrB base [xb] w w' := by
  have H := Lib.hid (each_calls base xb t xs w ht.lies hb hx h1)
  have c0 : w.cell? ⟨tb, 0, none⟩ = some (.pointer t.ptr) := ht.at_.cell 0
  clear ht hb hx
  go_enter Try.func75, Try.ntmps75
  go_wp2_with fail
  refine H.out.mono ?_
  rintro e w3 ⟨rfl, hx3, hF3⟩
  go_wp2
  go_end0
  exact ⟨rfl, hx3, hF3⟩
theorem tree_size (tb : Nat) (t : IT) (w : World) (ht : TreeW w tb t) (hs : t.ids.length ≤ 10000000000) :
    Calls Try.prog 77 #[.pointer (some ⟨tb, 0, none⟩)] w fun e w' => e = .returned (.int .i64 (t.ids.length : Nat)) ∧ w' = w := by
  have H := Lib.hid (size_calls t w ht.lies hs)
  have c0 : w.cell? ⟨tb, 0, none⟩ = some (.pointer t.ptr) := ht.at_.cell 0
  clear ht
  go_enter Try.func77, Try.ntmps77
  go_wp2_with fail
  refine H.out.mono ?_
  rintro e w3 ⟨rfl, rfl⟩
  go_wp2
  go_ret
  exact ⟨rfl, rfl⟩
theorem tree_height (tb : Nat) (t : IT) (w : World) (ht : TreeW w tb t) :
    Calls Try.prog 78 #[.pointer (some ⟨tb, 0, none⟩)] w fun e w' => e = .returned (.int .i64 t.ht) ∧ w' = w := by
  have H := Lib.hid (getHeight_calls t _ rfl w (IT.In.top ht.lies))
  have c0 : w.cell? ⟨tb, 0, none⟩ = some (.pointer t.ptr) := ht.at_.cell 0
  clear ht
  go_enter Try.func78, Try.ntmps78
  go_wp2_with fail
  refine H.out.mono ?_
  rintro e w3 ⟨rfl, rfl⟩
  go_wp2
  go_ret
  exact ⟨rfl, rfl⟩
theorem span_load {w : World} {s : Nat} {a b c : Value} (h : Blk w s #[a, b, c] 46) : (loadVar 46 ⟨s, 0, none⟩).run Try.prog w = .ok (.agg #[a, b, c]) w := by
  have c0 : w.cell? ⟨s, 0, none⟩ = some a := h.cell 0
  have c1 : w.cell? ⟨s, 1, none⟩ = some b := h.cell 1
  have c2 : w.cell? ⟨s, 2, none⟩ = some c := h.cell 2
  clear h
  go_simp
set_option maxRecDepth 100000 in
theorem span_calls (x y z : Int) (w : World) : Calls Try.prog 74 #[.agg #[.int .i64 x, .int .i64 y, .int .i64 z]] w fun e w' => e = .returned (.agg #[.int .i64 x, .int .i64 y, .int .i64 z]) ∧ Fr [] w w' := by
  have hb := Blk.new (w.alloc (Obj.cells #[.int .i64 x, .int .i64 y, .int .i64 z] 131)) #[.int .i64 x, .int .i64 y, .int .i64 z] 46
  rw [show (w.alloc (Obj.cells #[.int .i64 x, .int .i64 y, .int .i64 z] 131)).heap.size = w.heap.size + 1 by simp] at hb
  have HB := Lib.hid hb
  clear hb
  have F1 := Lib.hid ((Fr.alloc [] w (Obj.cells #[.int .i64 x, .int .i64 y, .int .i64 z] 131)).comp (Fr.alloc [] _ (Obj.cells #[.int .i64 x, .int .i64 y, .int .i64 z] 46)))
  go_enter Try.func74, Try.ntmps74
  go_wp2_with fail
  exact bodyPost_ret (results_cell rfl _ _ _ rfl (span_load HB.out)) rfl ⟨rfl, F1.out⟩
end Go.Proofs.Ytomclflknjkhfaa
