/- scripts on AVL trees: steps in rows of one's own, what was told at a place, laws.treeLast. -/
import Derived.Test.YtjbelfbfhcmgeaaAvlO
import Derived.Test.YtjbelfbfhcmgeaaRow
import Derived.Test.YtjbelfbfhcmgeaaAvl9
import Derived.Test.YtjbelfbfhcmgeaaLow0
namespace Go.Proofs.Ytjbelfbfhcmgeaa
open Go.RowKit

def it1 (x : Int) : List Value := [.int .i64 x]
theorem it1_len (x : Int) : (it1 x).length = 1 := rfl
theorem it1_flat : ∀ xs : List Int, xs.flatMap it1 = xs.map i64v
  | [] => rfl
  | x :: xs => by rw [List.flatMap_cons, it1_flat xs]; rfl
theorem it1_at {w : World} {B n c : Nat} {A : Option Addr} {xs : List Int} (h : SlC 1 it1 w B (.slice A n c) xs) {i : Nat} (hi : i < xs.length) : ∃ b off, A = some ⟨b, off, none⟩ ∧ xs.length ≤ c ∧ b < B ∧ w.cell? ⟨b, off + i, none⟩ = some (.int .i64 xs[i]) := by
  obtain ⟨b, off, a, e, h1, h2, _, h4, h5⟩ := SlC.at_ h hi
  have := h5 0 _ rfl
  rw [Nat.mul_one, Nat.add_zero] at this
  rw [List.getElem?_eq_getElem hi, Option.some.injEq] at h4
  subst h4
  exact ⟨b, off, e, h1, h2, this⟩
theorem runA_append (xs : List Int) : ∀ (a b : List ActD) (t : AT), runA xs t (a ++ b) = ((runA xs (runA xs t a).1 b).1, (runA xs t a).2 ++ (runA xs (runA xs t a).1 b).2)
  | [], _, _ => rfl
  | x :: a, b, t => by simp only [List.cons_append, runA, runA_append xs a b]
theorem run_er (xs : List Int) : ∀ (l : List ActD) (t : AT), t.er = t → (runA xs t l).1.er = (runA xs t l).1
  | [], _, h => h
  | a :: l, t, h => by
    have h1 := (er_step xs a 0 t).1
    rw [h] at h1
    exact run_er xs l _ h1
theorem step_vs (xs : List Int) (a : ActD) (t : AT) (h : t.Vs) : (stepA xs a 0 t).1.Vs := by
  unfold stepA
  split
  · exact add_vs xs a.key 0 ⟨_, rfl⟩ h
  · split
    · exact rem_vs xs a.key h
    · repeat' split
      all_goals exact h
theorem run_ok (xs : List Int) : ∀ (l : List ActD) (t : AT), t.Ok → t.Vs → (runA xs t l).1.Ok ∧ (runA xs t l).1.Vs ∧ (runA xs t l).1.ids.length ≤ t.ids.length + l.length
  | [], _, h, v => ⟨h, v, by simp [runA]⟩
  | a :: l, t, h, v => by
    obtain ⟨h1, h2⟩ := step_ok xs a t h
    obtain ⟨r1, r2, r3⟩ := run_ok xs l _ h1 (step_vs xs a t v)
    exact ⟨r1, r2, by simp only [runA, List.length_cons]; omega⟩
/-- a slice of this call's own that holds steps, read as one that came in. -/
def actCells (l : List ActD) : List Value := l.flatMap fun a => [.int .i64 a.act, .int .i64 a.key, .int .i64 a.val]
theorem actCells_len : ∀ l, (actCells l).length = l.length * 3
  | [] => rfl
  | a :: l => by show (_ :: _ :: _ :: actCells l).length = _; simp [actCells_len l]; omega
theorem actCells_get : ∀ (l : List ActD) (i : Nat) (a : ActD), l[i]? = some a → (actCells l)[i * 3]? = some (.int .i64 a.act) ∧ (actCells l)[i * 3 + 1]? = some (.int .i64 a.key) ∧ (actCells l)[i * 3 + 2]? = some (.int .i64 a.val)
  | [], i, a, h => by simp at h
  | b :: l, 0, a, h => by simp at h; subst h; exact ⟨rfl, rfl, rfl⟩
  | b :: l, i + 1, a, h => by
    have := actCells_get l i a (by simpa using h)
    rw [show (i + 1) * 3 = i * 3 + 1 + 1 + 1 by omega]
    exact this
theorem actCells_append (a b : List ActD) : actCells (a ++ b) = actCells a ++ actCells b := by simp [actCells]
theorem own_SlA {w : World} {B : Nat} {v : Value} {l : List ActD} (h : w.ownsRow B 52 3 v l.length (actCells l)) : SlA w w.heap.size v l := by
  rcases h.2 with ⟨e, h0⟩ | ⟨g, cap, cur, e, h1, h2, h3, h4, h5, h6⟩
  · have := List.length_eq_zero_iff.1 h0
    subst this
    exact ⟨⟨_, _, e, .inl rfl⟩⟩
  · have hl : g < w.heap.size := (Array.getElem?_eq_some_iff.1 h2).1
    refine ⟨⟨_, cap, e, .inr ⟨g, 0, rfl, h3, hl, hl, fun i a hi => ?_⟩⟩⟩
    have hil : i < l.length := (List.getElem?_eq_some_iff.1 hi).1
    obtain ⟨a0, a1, a2⟩ := actCells_get l i a hi
    have key : ∀ j x, j < l.length * 3 → (actCells l)[j]? = some x → w.cell? ⟨g, 0 + j, none⟩ = some x := by
      intro j x hj hx
      rw [← h6, List.getElem?_take_of_lt hj] at hx
      rw [show (⟨g, 0 + j, none⟩ : Addr) = ⟨g, j, none⟩ by simp]
      have : w.cell? ⟨g, j, none⟩ = cur[j]? := (show Blk w g cur _ from h2).cell j
      rw [this, ← hx]; simp
    refine ⟨key _ _ (by omega) a0, ?_, ?_⟩
    · have := key _ _ (by omega) a1; rw [← Nat.add_assoc] at this; exact this
    · have := key _ _ (by omega) a2; rw [← Nat.add_assoc] at this; exact this
theorem Try.infoAct : (Try.prog.info? 52).map (fun i => (i.zero, i.size, i.bytes)) = some (some (.agg #[.int .i64 0, .int .i64 0, .int .i64 0]), 3, 24) := by kernel_rfl
def actCell (a : ActD) : List Value := [.int .i64 a.act, .int .i64 a.key, .int .i64 a.val]
theorem actCell_len (a : ActD) : (actCell a).length = 3 := rfl
theorem SlA.toC {w : World} {B : Nat} {v : Value} {l : List ActD} (h : SlA w B v l) : SlC 3 actCell w B v l := by
  obtain ⟨A, cap, e, h⟩ := h.is
  refine ⟨A, cap, e, h.imp id ?_⟩
  rintro ⟨b, off, e, h1, h3, h4, h5⟩
  refine ⟨b, off, e, h1, h3, h4, fun i a hi j u hj => ?_⟩
  obtain ⟨a0, a1, a2⟩ := h5 i a hi
  match j, hj with
  | 0, hj => simp only [actCell, List.getElem?_cons_zero, Option.some.injEq] at hj; rw [← hj]; exact a0
  | 1, hj => simp only [actCell, List.getElem?_cons_succ, List.getElem?_cons_zero, Option.some.injEq] at hj; rw [← hj]; exact a1
  | 2, hj => simp only [actCell, List.getElem?_cons_succ, List.getElem?_cons_zero, Option.some.injEq] at hj; rw [← hj]; exact a2
  | j + 3, hj => simp [actCell] at hj
theorem TR.at_ {w : World} {B : Nat} : ∀ {ds : List ToldD} {cs : List Value} {i : Nat} {d : ToldD}, TR w B ds cs → ds[i]? = some d → ∃ ka kc va vc, cs[i * 4]? = some (.int .i64 d.val) ∧ cs[i * 4 + 1]? = some (.bool d.ok) ∧
    cs[i * 4 + 2]? = some (.slice ka d.keys.length kc) ∧ cs[i * 4 + 3]? = some (.slice va d.vals.length vc) ∧ w.ownsRow B 3 1 (.slice ka d.keys.length kc) d.keys.length (d.keys.map i64v) ∧ w.ownsRow B 3 1 (.slice va d.vals.length vc) d.vals.length (d.vals.map i64v)
  | [], _, _, _, _, h => by simp at h
  | _ :: _, cs, 0, d, ⟨ka, kc, va, vc, rest, e, h1, h2, _⟩, h => by simp at h; subst h; rw [e]; exact ⟨ka, kc, va, vc, rfl, rfl, rfl, rfl, h1, h2⟩
  | _ :: ds, cs, i + 1, d, ⟨ka, kc, va, vc, rest, e, _, _, h3⟩, h => by
    have := TR.at_ h3 (by simpa using h)
    rw [e, show (i + 1) * 4 = i * 4 + 1 + 1 + 1 + 1 by omega]
    exact this
theorem own_len {w : World} {B s n : Nat} {T : TypeId} {v : Value} {xs : List Value} (h : w.ownsRow B T s v n xs) : n ≤ 9223372036854775807 := by
  rcases h.2 with ⟨_, h0⟩ | ⟨g, cap, cur, e, h1, h2, h3, h4, _⟩
  · omega
  · unfold maxLen at h4; omega
theorem own_I {w : World} {B : Nat} {v : Value} {xs : List Int} (h : w.ownsRow B 3 1 v xs.length (xs.map i64v)) : SlC 1 it1 w w.heap.size v xs := own_SlC it1_len (by rw [it1_flat]; exact h)
/-- what a slice that tells holds at a place. -/
structure ToldAt (w : World) (g : Nat) (i : Nat) (d : ToldD) (ka va : Option Addr) (kc vc : Nat) : Prop where
  c0 : w.cell? ⟨g, i * 4, none⟩ = some (.int .i64 d.val)
  c1 : w.cell? ⟨g, i * 4 + 1, none⟩ = some (.bool d.ok)
  c2 : w.cell? ⟨g, i * 4 + 2, none⟩ = some (.slice ka d.keys.length kc)
  c3 : w.cell? ⟨g, i * 4 + 3, none⟩ = some (.slice va d.vals.length vc)
  keys : SlC 1 it1 w w.heap.size (.slice ka d.keys.length kc) d.keys
  vals : SlC 1 it1 w w.heap.size (.slice va d.vals.length vc) d.vals
  kl : d.keys.length ≤ 9223372036854775807
  vl : d.vals.length ≤ 9223372036854775807
  lt : g < w.heap.size
theorem Tolds.at_ {w : World} {B : Nat} {v : Value} {ds : List ToldD} (h : Tolds w B v ds) {n : Nat} (hl : ds.length = n) : ∃ A c, v = .slice A n c ∧ ∀ i d, ds[i]? = some d → ∃ g ka va kc vc, A = some ⟨g, 0, none⟩ ∧ n ≤ c ∧ ToldAt w g i d ka va kc vc := by
  subst hl
  obtain ⟨cs, ho, ht⟩ := h
  rcases ho.2 with ⟨e, h0⟩ | ⟨g, cap, cur, e, h1, h2, h3, h4, h5, h6⟩
  · exact ⟨none, 0, by rw [e, h0], fun i d hi => by rw [List.length_eq_zero_iff.1 h0] at hi; simp at hi⟩
  · refine ⟨_, cap, e, fun i d hi => ?_⟩
    have hil : i < ds.length := (List.getElem?_eq_some_iff.1 hi).1
    obtain ⟨ka, kc, va, vc, a0, a1, a2, a3, o1, o2⟩ := ht.at_ hi
    have key : ∀ j x, j < ds.length * 4 → cs[j]? = some x → w.cell? ⟨g, j, none⟩ = some x := by
      intro j x hj hx
      rw [← h6, List.getElem?_take_of_lt hj] at hx
      have : w.cell? ⟨g, j, none⟩ = cur[j]? := (show Blk w g cur _ from h2).cell j
      rw [this, ← hx]; simp
    exact ⟨g, ka, va, kc, vc, rfl, h3, key _ _ (by omega) a0, key _ _ (by omega) a1, key _ _ (by omega) a2, key _ _ (by omega) a3, own_I o1, own_I o2, own_len o1, own_len o2, (Array.getElem?_eq_some_iff.1 h2).1⟩
theorem ToldAt.below {w w' : World} {g i : Nat} {d : ToldD} {ka va : Option Addr} {kc vc : Nat} (h : ToldAt w g i d ka va kc vc) (hb : Below w.heap.size w w') : ToldAt w' g i d ka va kc vc :=
  ⟨(hb.cell (p := ⟨g, i * 4, none⟩) h.lt).trans h.c0, (hb.cell (p := ⟨g, i * 4 + 1, none⟩) h.lt).trans h.c1, (hb.cell (p := ⟨g, i * 4 + 2, none⟩) h.lt).trans h.c2, (hb.cell (p := ⟨g, i * 4 + 3, none⟩) h.lt).trans h.c3,
    (h.keys.below hb).mono hb.size, (h.vals.below hb).mono hb.size, h.kl, h.vl, Nat.lt_of_lt_of_le h.lt hb.size⟩
theorem own_empty (w : World) (T : TypeId) (s : Nat) : (w.alloc (.cells #[] T)).ownsRow w.heap.size T s (.slice (some ⟨w.heap.size, 0, none⟩) 0 0) 0 [] :=
  ⟨by simp, .inr ⟨w.heap.size, 0, #[], rfl, Nat.le_refl _, Blk.new w #[] T, Nat.le_refl _, by unfold maxLen; omega, by simp, by simp⟩⟩
theorem keysI {w w' : World} (h : KeepsInts w w') {B : Nat} {v : Value} {xs : List Int} (ho : w.ownsRow B 3 1 v xs.length (xs.map i64v)) : SlC 1 it1 w' w'.heap.size v xs := own_I (h.own ho)
/-- the last one that was told. -/
structure LastAt (w : World) (d : ToldD) (v : Value) : Prop where
  is : ∃ ka kc va vc, v = .agg #[.int .i64 d.val, .bool d.ok, .slice ka d.keys.length kc, .slice va d.vals.length vc] ∧ SlC 1 it1 w w.heap.size (.slice ka d.keys.length kc) d.keys ∧ SlC 1 it1 w w.heap.size (.slice va d.vals.length vc) d.vals ∧
    d.keys.length ≤ 9223372036854775807 ∧ d.vals.length ≤ 9223372036854775807 ∧ w.ownsRow 0 3 1 (.slice ka d.keys.length kc) d.keys.length (d.keys.map i64v) ∧ w.ownsRow 0 3 1 (.slice va d.vals.length vc) d.vals.length (d.vals.map i64v)
set_option maxRecDepth 100000 in
set_option maxHeartbeats 1600000 in
theorem treeLast_calls (B : Nat) (v : Value) (ds : List ToldD) (d : ToldD) (w : World) (h : Tolds w B v (ds ++ [d])) (hd : ds.length ≤ 100000000000) :
    Calls Try.prog 24 #[v, .int .i64 1] w fun e w' => ∃ u, e = .returned (.tuple #[u, .bool true]) ∧ LastAt w' d u ∧ Below w.heap.size w w' := by
  obtain ⟨cs, ho, ht⟩ := h
  have hn : (ds ++ [d]).length = ds.length + 1 := by simp
  rw [hn] at ho
  rcases ho.2 with ⟨e, h0⟩ | ⟨g, cap, cur, rfl, h1, h2, h3, h4, h5, h6⟩
  · omega
  obtain ⟨ka, kc, va, vc, a0, a1, a2, a3, o1, o2⟩ := ht.at_ (i := ds.length) (d := d) (by rw [List.getElem?_append_right (Nat.le_refl _)]; simp)
  have hb : Blk w g cur 50 := h2
  have key : ∀ j x, j < (ds.length + 1) * 4 → cs[j]? = some x → w.cell? ⟨g, j, none⟩ = some x := by
    intro j x hj hx
    rw [← h6, List.getElem?_take_of_lt hj] at hx
    rw [hb.cell j, ← hx]; simp
  have c0 := key _ _ (by omega) a0
  have c1 := key _ _ (by omega) a1
  have c2 := key _ _ (by omega) a2
  have c3 := key _ _ (by omega) a3
  have gl := hb.lt
  obtain ⟨dn, dk, dks, dvs⟩ := d
  simp only at *
  have HB := Lib.hid (Blk.new w #[.int .i64 0, .bool false, .slice none 0 0, .slice none 0 0] 50)
  have HO := Lib.hid (And.intro (own_weaken o1 (Nat.zero_le B)) (own_weaken o2 (Nat.zero_le B)))
  have p1 : (0 : Int) ≤ (ds.length : Int) := by omega
  have hne : ¬ g = w.heap.size := by omega
  have hne' : ¬ w.heap.size = g := by omega
  clear a0 a1 a2 a3 o1 o2 ho ht hn h2 key h5 h6 hb h1 h4
  go_enter Try.func24, Try.ntmps24
  go_wp2_with fail
  have hK : KeepsInts w (w.alloc (Obj.cells #[.int .i64 dn, .bool dk, .slice ka dks.length kc, .slice va dvs.length vc] 50)) := KeepsInts.below ((Below.refl _ w).alloc (Nat.le_refl _) _)
  have z := Blk.new w #[.int .i64 dn, .bool dk, .slice ka dks.length kc, .slice va dvs.length vc] 50
  have z0 := z.cell 0
  have z1 := z.cell 1
  have z2 := z.cell 2
  have z3 := z.cell 3
  refine bodyPost_ret (v := .tuple #[.agg #[.int .i64 dn, .bool dk, .slice ka dks.length kc, .slice va dvs.length vc], .bool true]) (by simp [results, Try.results24, go_sem, z0, z1, z2, z3]) rfl ⟨_, rfl, ⟨ka, kc, va, vc, rfl, ?_⟩, (Below.refl _ w).alloc (Nat.le_refl _) _⟩
  have k1 := hK.own HO.out.1
  have k2 := hK.own HO.out.2
  exact ⟨own_I k1, own_I k2, own_len k1, own_len k2, k1, k2⟩
end Go.Proofs.Ytjbelfbfhcmgeaa
