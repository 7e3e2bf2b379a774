/- FnGlobBuilds: buildAlt. -/
import Derived.Test.YtliaojbboefogaaProg
import Derived.Test.YtliaojbboefogaaK
import Derived.Lib.AppendStr
import Derived.Laws.IdiomStrings
import Derived.OwnWalk
import Derived.Laws.Strings2
import Derived.Laws.Slices
import Derived.Lib.Hide
import Derived.Deep.Cut
namespace Go.Proofs.Ytliaojbboefogaa
open Go.RowKit Go.Lib

theorem Try.infoByte : (Try.prog.info? 5).map (fun i => (i.zero, i.size, i.bytes)) = some (some (.int .u8 0), 1, 1) := by kernel_rfl
theorem news_one {W : World} {u : Value} {T : TypeId} : ∀ j x, [u][j]? = some x → (W.alloc (.cells #[u] T)).cell? ((⟨W.heap.size, 0, none⟩ : Addr).add j) = some x := by
  intro j x hj
  cases j with
  | zero => simp at hj; subst hj; exact (Blk.new W #[u] T).cell 0
  | succ j => simp at hj
/-- the bytes ahead of the pieces. -/
def preL (p : ByteArray) : List UInt8 := if p.toList.isEmpty = true ∨ (p.toList == [46]) = true then [] else p.data.toList ++ [47]
def byteV (b : UInt8) : Value := .int .u8 b.toNat
theorem strCells_map (s : ByteArray) : strCells s = s.data.toList.map byteV := rfl
theorem preL_len (p : ByteArray) : (preL p).length ≤ p.size + 1 := by
  unfold preL; split
  · simp
  · rw [List.length_append, Array.length_toList]; exact Nat.le_refl _
theorem pre_cases (p : ByteArray) : (p.toList.isEmpty = true ∧ preL p = []) ∨ (p.toList.isEmpty = false ∧ (p.toList == [46]) = true ∧ preL p = []) ∨ (p.toList.isEmpty = false ∧ (p.toList == [46]) = false ∧ preL p = p.data.toList ++ [47]) := by
  by_cases h1 : p.toList.isEmpty = true
  · exact .inl ⟨h1, if_pos (.inl h1)⟩
  · by_cases h2 : (p.toList == [46]) = true
    · exact .inr (.inl ⟨Bool.eq_false_iff.2 h1, h2, if_pos (.inr h2)⟩)
    · exact .inr (.inr ⟨Bool.eq_false_iff.2 h1, Bool.eq_false_iff.2 h2, if_neg (fun h => h.elim h1 h2)⟩)
/-- the text that is built. -/
def built (p s : ByteArray) (i0 i1 i2 i3 i4 : Nat) : ByteArray := ⟨(preL p ++ (s.extract i0 i1).data.toList ++ (s.extract i2 i3).data.toList ++ (s.extract i4 s.size).data.toList).toArray⟩
theorem own_string {P : Program} {w : World} {B : Nat} {src dst e : TypeId} {v : Value} {l : List UInt8} (hs : P.underlying src = some (.slice e)) (he : P.underlying e = some (.int .u8)) (hd : P.underlying dst = some .string) (h : w.ownsRow B e 1 v l.length (l.map byteV)) :
    (convert src dst v).run P w = .ok (.string ⟨l.toArray⟩) w := by
  rcases h.2 with ⟨e1, h0⟩ | ⟨g, cap, cur, e1, h1, h2, h3, h4, h5, h6⟩
  · have := List.length_eq_zero_iff.1 h0
    subst this
    rw [e1, run_convert_bytes_nil w src e hs he _ _ dst hd]
    rfl
  · rw [e1]
    refine run_convert_bytes_back w src dst e _ cap l hs he hd (fun j hj => ?_)
    have hc : w.cell? ⟨g, j, none⟩ = cur[j]? := (show Blk w g cur _ from h2).cell j
    have h7 : (l.map byteV)[j]? = some (byteV l[j]) := by rw [List.getElem?_map, List.getElem?_eq_getElem hj]; rfl
    rw [← h6, List.getElem?_take_of_lt (by omega)] at h7
    rw [show (⟨g, 0, none⟩ : Addr).add j = ⟨g, j, none⟩ by unfold Addr.add; split <;> simp_all, hc]
    simpa [byteV] using h7
theorem ext_size (s : ByteArray) (a b : Nat) : (s.extract a b).size = (s.extract a b).data.toList.length := by rw [Array.length_toList]; rfl
theorem built_run {w : World} {B : Nat} {v : Value} {p s : ByteArray} {i0 i1 i2 i3 i4 : Nat}
    (h : w.ownsRow B 5 1 v ((preL p).length + (s.extract i0 i1).size + (s.extract i2 i3).size + (s.extract i4 s.size).size) (List.map byteV (preL p) ++ strCells (s.extract i0 i1) ++ strCells (s.extract i2 i3) ++ strCells (s.extract i4 s.size))) :
    (convert 49 9 v).run Try.prog w = .ok (.string (built p s i0 i1 i2 i3 i4)) w := by
  refine own_string (B := B) Try.underlying49 Try.underlying5 Try.underlying9 ?_
  rw [ext_size, ext_size, ext_size, strCells_map, strCells_map, strCells_map, ← List.map_append, ← List.map_append, ← List.map_append, ← List.length_append, ← List.length_append, ← List.length_append] at h
  exact h
theorem built_end {w : World} {B : Nat} {v : Value} {p s : ByteArray} {i0 i1 i2 i3 i4 : Nat} (h4 : i4 ≤ s.size) (hn : ¬ (i4 : Int) < (s.size : Int))
    (h : w.ownsRow B 5 1 v ((preL p).length + (s.extract i0 i1).size + (s.extract i2 i3).size) (List.map byteV (preL p) ++ strCells (s.extract i0 i1) ++ strCells (s.extract i2 i3))) :
    (convert 49 9 v).run Try.prog w = .ok (.string (built p s i0 i1 i2 i3 i4)) w := by
  have e : s.extract i4 s.size = ByteArray.empty := by
    have : i4 = s.size := by omega
    subst this
    apply ByteArray.ext
    rw [ByteArray.data_extract]
    simp
  refine built_run (B := B) ?_
  rw [e]
  simpa [strCells] using h
set_option maxRecDepth 100000 in
set_option maxHeartbeats 1600000 in
theorem buildAlt_calls (p s : ByteArray) (i0 i1 i2 i3 i4 : Nat) (w : World) (hp : p.size ≤ 2147483647) (hs : s.size ≤ 2147483647) (h0 : i0 ≤ i1) (h1 : i1 ≤ i2) (h2 : i2 ≤ i3) (h3 : i3 ≤ i4) (h4 : i4 ≤ s.size) :
    Calls Try.prog 17 #[.string p, .string s, .int .i64 i0, .int .i64 i1, .int .i64 i2, .int .i64 i3, .int .i64 i4] w fun e w' => e = .returned (.string (built p s i0 i1 i2 i3 i4)) ∧ Below w.heap.size w w' := by
  obtain ⟨i, hi, hz0, hz1, hz2⟩ := info_parts Try.infoByte
  have u9 : Try.prog.underlying 9 = some .string := Try.underlying9
  have hpl := preL_len p
  have a0 : (0 : Int) ≤ (i0 : Int) := by omega
  have a1 : (i0 : Int) ≤ (i1 : Int) := by omega
  have a2 : (i1 : Int) ≤ (s.size : Int) := by omega
  have a3 : (0 : Int) ≤ (i2 : Int) := by omega
  have a4 : (i2 : Int) ≤ (i3 : Int) := by omega
  have a5 : (i3 : Int) ≤ (s.size : Int) := by omega
  have a6 : (0 : Int) ≤ (i4 : Int) := by omega
  have a7 : (i4 : Int) ≤ (s.size : Int) := by omega
  rcases pre_cases p with ⟨hA, hP⟩ | ⟨hA, hB, hP⟩ | ⟨hA, hB, hP⟩
  all_goals
    have HP := Lib.hid hP
    clear hP
    go_enter Try.func17, Try.ntmps17
    go_upto_if 36 with (fail)
    go_cut [15] (fun v wx => wx.ownsRow w.heap.size 5 1 v (preL p).length ((preL p).map byteV) ∧ Below w.heap.size w wx)
    case' rest =>
      obtain ⟨ho, hb⟩ := hcut
      by_cases hlt : (i4 : Int) < (s.size : Int)
      · have HLT := Lib.hid hlt
        go_wp2_with (first
          | (at_builtin; refine wpList_append_own_string _ rfl (.tmp 51) (.tmp 55) 49 9 rfl w.heap.size 5 i Try.underlying49 u9 hi hz0 hz1 hz2 _ _ _ rfl ho (s.extract i0 i1) rfl (by unfold maxLen; simp; omega) (by simp; omega) hb.size ?_; intro v2 w2 hown2 hgrow2 _; have b2 := hb.grown hgrow2 hb.size (fun g hg => (ho.lt g hg).1); clear hgrow2)
          | (at_builtin; refine wpList_append_own_string _ rfl (.tmp 57) (.tmp 61) 49 9 rfl w.heap.size 5 i Try.underlying49 u9 hi hz0 hz1 hz2 _ _ _ rfl hown2 (s.extract i2 i3) rfl (by unfold maxLen; simp; omega) (by simp; omega) b2.size ?_; intro v3 w3 hown3 hgrow3 _; have b3 := b2.grown hgrow3 b2.size (fun g hg => (hown2.lt g hg).1); clear hgrow3)
          | (at_builtin; refine wpList_append_own_string _ rfl (.tmp 66) (.tmp 69) 49 9 rfl w.heap.size 5 i Try.underlying49 u9 hi hz0 hz1 hz2 _ _ _ rfl hown3 (s.extract i4 s.size) rfl (by unfold maxLen; simp; omega) (by simp; omega) b3.size ?_; intro v4 w4 hown4 hgrow4 _; have b4 := b3.grown hgrow4 b3.size (fun g hg => (hown3.lt g hg).1); clear hgrow4; have hc := built_run hown4))
        go_ret
        exact ⟨rfl, b4⟩
      · have HLT := Lib.hid hlt
        go_wp2_with (first
          | (at_builtin; refine wpList_append_own_string _ rfl (.tmp 51) (.tmp 55) 49 9 rfl w.heap.size 5 i Try.underlying49 u9 hi hz0 hz1 hz2 _ _ _ rfl ho (s.extract i0 i1) rfl (by unfold maxLen; simp; omega) (by simp; omega) hb.size ?_; intro v2 w2 hown2 hgrow2 _; have b2 := hb.grown hgrow2 hb.size (fun g hg => (ho.lt g hg).1); clear hgrow2)
          | (at_builtin; refine wpList_append_own_string _ rfl (.tmp 57) (.tmp 61) 49 9 rfl w.heap.size 5 i Try.underlying49 u9 hi hz0 hz1 hz2 _ _ _ rfl hown2 (s.extract i2 i3) rfl (by unfold maxLen; simp; omega) (by simp; omega) b2.size ?_; intro v3 w3 hown3 hgrow3 _; have b3 := b2.grown hgrow3 b2.size (fun g hg => (hown2.lt g hg).1); clear hgrow3; have hc := built_end (i4 := i4) h4 HLT.out hown3))
        go_ret
        exact ⟨rfl, b3⟩
  rotate_left 2
  · go_wp2_with (first
        | (refine wpList_make_own _ rfl (.const (.int .i64 0)) (.tmp 41) 49 rfl w.heap.size 5 i _ 1 Try.underlying49 hi hz0 hz1 .i64 .i64 _ (i1 - i0 + (i3 - i2) + (s.size - i4) + p.size + 1) rfl rfl (by omega) (by rw [hz2]; omega) (by unfold maxLen; omega) (Nat.le_refl _) ?_; intro w1 hown1 hgrow1)
        | (at_builtin; refine wpList_append_own_string _ rfl (.tmp 43) (.tmp 44) 49 9 rfl w.heap.size 5 i Try.underlying49 u9 hi hz0 hz1 hz2 _ 0 [] rfl hown1 p rfl (by unfold maxLen; omega) (by omega) hgrow1.size ?_; intro v2 w2 hown2 hgrow2 _)
        | (at_builtin; refine wpList_append_own _ rfl (.tmp 46) (.tmp 47) 49 rfl w.heap.size 5 i _ 1 1 Try.underlying49 hi hz0 hz1 hz2 rfl (by omega) _ _ _ rfl (hown2.alloc _) ⟨w2.heap.size, 0, none⟩ 1 1 [.int .u8 47] rfl rfl news_one (by simp [Value.oneCell']) (by unfold maxLen; omega) (by omega) (by have := hgrow1.size; have := hgrow2.size; simp; omega) ?_; intro v3 w3 hown3 hgrow3 _))
    go_meet
    have e1 : (p.data.toList ++ [47]).length = 0 + p.size + 1 := by rw [List.length_append, Array.length_toList, Nat.zero_add]; rfl
    have e2 : (p.data.toList ++ [47]).map byteV = [] ++ strCells p ++ [.int .u8 47] := by rw [List.map_append]; rfl
    refine ⟨by rw [HP.out, e1, e2]; exact hown3, ?_⟩
    have b1 : Below w.heap.size w w1 := (Below.refl _ w).grown hgrow1 (Nat.le_refl _) (by simp)
    have b2 := b1.grown hgrow2 b1.size (fun g hg => (hown1.lt g hg).1)
    exact (b2.alloc b2.size _).grown hgrow3 (by have := b2.size; simp; omega) (fun g hg => (hown2.lt g hg).1)
  all_goals
    go_wp2_with (refine wpList_make_own _ rfl (.const (.int .i64 0)) (.tmp 49) 49 rfl w.heap.size 5 i _ 1 Try.underlying49 hi hz0 hz1 .i64 .i64 _ (i1 - i0 + (i3 - i2) + (s.size - i4)) rfl rfl (by omega) (by rw [hz2]; omega) (by unfold maxLen; omega) (Nat.le_refl _) ?_; intro w1 hown1 hgrow1)
    go_meet
    exact ⟨by rw [HP.out]; exact hown1, (Below.refl _ w).grown hgrow1 (Nat.le_refl _) (by simp)⟩
end Go.Proofs.Ytliaojbboefogaa
