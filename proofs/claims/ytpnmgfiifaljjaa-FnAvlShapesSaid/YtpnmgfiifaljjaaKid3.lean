/- spec.Tall, spec.Even, spec.Between, by the tree that the places make. -/
import Derived.Test.YtpnmgfiifaljjaaKid2
import Derived.Test.YtpnmgfiifaljjaaOrd
import Derived.Deep.QuietTactic
import Derived.BigQuiet
import Derived.IntWalk
namespace Go.Proofs.Ytpnmgfiifaljjaa.Kp
open Go.RowKit

/-- the table of places of a list of nodes. -/
def KT (w : World) (B : Nat) (kv : Value) (has : List (List Bool)) : Prop := SS num1 w B kv ((List.range has.length).map (kidsAt has))
theorem KT.form {w : World} {B : Nat} {kv : Value} {has : List (List Bool)} (h : KT w B kv has) : ∃ A c, kv = .slice A has.length c := by
  obtain ⟨A, c, e⟩ := SS.form h
  exact ⟨A, c, by rw [e]; simp⟩
theorem KT.below {w w' : World} {B : Nat} {kv : Value} {has : List (List Bool)} (h : KT w B kv has) (hb : Below B w w') : KT w' B kv has := SS.below h hb
theorem KT.drewN {w : World} {B : Nat} {kv : Value} {has : List (List Bool)} (h : KT w B kv has) (n : Nat) : KT (w.drewN n) B kv has := h.below (Below.drewN w n)
/-- a node's row of places, and its two places. -/
theorem KT.at_ {w : World} {B n c : Nat} {A : Option Addr} {has : List (List Bool)} (h : KT w B (.slice A n c) has) {p : Nat} {l r : BT} (hs : Stands has p (.node l r)) : ∃ b off b2 off2 c2, A = some ⟨b, off, none⟩ ∧ has.length ≤ c ∧ 2 ≤ c2 ∧
    w.cell? ⟨b, off + p, none⟩ = some (.slice (some ⟨b2, off2, none⟩) 2 c2) ∧ w.cell? ⟨b2, off2, none⟩ = some (.int .i64 (l.at_ (p + 1))) ∧ w.cell? ⟨b2, off2 + 1, none⟩ = some (.int .i64 (r.at_ (p + 1 + l.size))) := by
  have hle := hs.le
  simp only [BT.size] at hle
  have hp : p < ((List.range has.length).map (kidsAt has)).length := by simp; omega
  obtain ⟨b, off, A2, c2, e, h1, h2, h3, h4, h5⟩ := SS.at_ h hp
  have hg : ((List.range has.length).map (kidsAt has)).getD p [] = [l.at_ (p + 1), r.at_ (p + 1 + l.size)] := by
    rw [List.getD_eq_getElem?_getD, List.getElem?_map, List.getElem?_range (by omega)]
    simp [hs.kids]
  rw [hg] at h4 h5
  obtain ⟨b2, off2, e2, g1, g2, g3⟩ := one_at h5 (i := 0) (x := l.at_ (p + 1)) rfl (u := .int .i64 (l.at_ (p + 1))) rfl
  obtain ⟨b3, off3, e3, _, _, k3⟩ := one_at h5 (i := 1) (x := r.at_ (p + 1 + l.size)) rfl (u := .int .i64 (r.at_ (p + 1 + l.size))) rfl
  rw [e2] at e3
  cases e3
  subst e2
  exact ⟨b, off, b2, off2, c2, e, by simpa using h1, g1, h4, g3, k3⟩
theorem at_bd (t : BT) (p : Nat) : t.is = false ∧ t.at_ p = -1 ∨ t.is = true ∧ t.at_ p = (p : Int) := by
  unfold BT.at_
  cases t.is
  · exact .inl ⟨rfl, rfl⟩
  · exact .inr ⟨rfl, rfl⟩
theorem if_max (a b : Int) : (if a < b then b else a) = max a b := by split <;> omega
def tallK (a b : Int) : Nat → Int
  | 0 => 0
  | 1 => a
  | _ => max a b
set_option maxRecDepth 100000 in
set_option maxHeartbeats 1600000 in
theorem tall_calls (has : List (List Bool)) (hn : has.length ≤ 5000000000) (kv : Value) (B : Nat) : ∀ (t : BT) (p : Nat) (w : World), KT w B kv has → Stands has p t →
    Calls Try.prog 51 #[kv, .int .i64 (t.at_ p)] w fun e w' => e = .returned (.int .i64 t.tall) ∧ w = w' := by
  intro t
  induction t with
  | nil =>
    intro p w hk _
    obtain ⟨A, c, rfl⟩ := hk.form
    show Calls _ _ #[_, .int .i64 (-1)] _ _
    clear hk
    go_enter Try.func51, Try.ntmps51
    go_wp2
    go_ret
    exact ⟨rfl, rfl⟩
  | node l r ihl ihr =>
    intro p w hk hs
    have hle := hs.le
    simp only [BT.size] at hle
    obtain ⟨A, c, rfl⟩ := hk.form
    obtain ⟨b, off, b2, off2, c2, rfl, h1, h2, q0, q1, q2⟩ := hk.at_ hs
    have HL := Lib.hid (ihl (p + 1) w hk hs.left)
    have HR := Lib.hid (ihr (p + 1 + l.size) w hk hs.right)
    have tl := l.tall_bd
    have tr := r.tall_bd
    show Calls _ _ #[_, .int .i64 (p : Int)] _ _
    have d0 : decide ((p : Int) < 0) = false := decide_eq_false (by omega)
    have d1 : decide (has.length ≤ p) = false := decide_eq_false (by omega)
    have HT := Lib.hid (show BT.tall (.node l r) = max l.tall r.tall + 1 from rfl)
    clear ihl ihr hk hs
    generalize l.at_ (p + 1) = il at *
    generalize r.at_ (p + 1 + l.size) = ir at *
    go_enter Try.func51, Try.ntmps51
    go_wp2_with fail
    go_loop [5, 6] (fun n kk => ∃ k : Nat, k ≤ 2 ∧ kk = .int .i64 (k : Nat) ∧ n = .int .i64 (tallK l.tall r.tall k)) (fun _ kk => 2 - (intOf kk).toNat)
    case atStart => exact ⟨0, by omega, rfl, rfl⟩
    case round =>
      obtain ⟨k, hk, rfl, rfl⟩ := hrel
      rcases k with _ | _ | _ | k
      · simp only [tallK]
        go_wp2_with fail
        refine HL.out.mono ?_
        rintro e w1 ⟨rfl, rfl⟩
        go_wp2_with fail
        exact ⟨⟨1, by omega, rfl, by exact congrArg (Value.int .i64) ((if_max 0 l.tall).trans (show max 0 l.tall = l.tall by omega))⟩, by simp [intOf]⟩
      · simp only [tallK]
        go_wp2_with fail
        refine HR.out.mono ?_
        rintro e w1 ⟨rfl, rfl⟩
        go_wp2_with fail
        exact ⟨⟨2, by omega, rfl, by exact congrArg (Value.int .i64) (if_max _ _)⟩, by simp [intOf]⟩
      · simp only [tallK]
        go_wp2_with fail
        go_ret
        exact ⟨by rw [HT.out]; rfl, rfl⟩
      · omega
theorem evenB_node (l r : BT) : (BT.node l r).even = (decide (l.tall - r.tall ≤ 1) && decide (r.tall - l.tall ≤ 1) && l.even && r.even) := rfl
set_option maxRecDepth 100000 in
set_option maxHeartbeats 1600000 in
theorem even_calls (has : List (List Bool)) (hn : has.length ≤ 5000000000) (kv : Value) (B : Nat) : ∀ (t : BT) (p : Nat) (w : World), KT w B kv has → Stands has p t →
    Calls Try.prog 39 #[kv, .int .i64 (t.at_ p)] w fun e w' => e = .returned (.bool t.even) ∧ ∃ n, w' = w.drewN n := by
  intro t
  induction t with
  | nil =>
    intro p w hk _
    obtain ⟨A, c, rfl⟩ := hk.form
    show Calls _ _ #[_, .int .i64 (-1)] _ _
    clear hk
    go_enter Try.func39, Try.ntmps39
    go_wp2
    go_ret
    exact ⟨rfl, 0, rfl⟩
  | node l r ihl ihr =>
    intro p w hk hs
    have hle := hs.le
    simp only [BT.size] at hle
    obtain ⟨A, c, rfl⟩ := hk.form
    obtain ⟨b, off, b2, off2, c2, rfl, h1, h2, q0, q1, q2⟩ := hk.at_ hs
    have HL := Lib.hid (fun n => ihl (p + 1) (w.drewN n) (hk.drewN n) hs.left)
    have HR := Lib.hid (fun n => ihr (p + 1 + l.size) (w.drewN n) (hk.drewN n) hs.right)
    have HTL := Lib.hid (fun n => tall_calls has hn _ B l (p + 1) (w.drewN n) (hk.drewN n) hs.left)
    have HTR := Lib.hid (fun n => tall_calls has hn _ B r (p + 1 + l.size) (w.drewN n) (hk.drewN n) hs.right)
    have tl := l.tall_bd
    have tr := r.tall_bd
    have sl : (l.size : Int) ≤ 5000000000 := by omega
    have sr : (r.size : Int) ≤ 5000000000 := by omega
    show Calls _ _ #[_, .int .i64 (p : Int)] _ _
    have d0 : decide ((p : Int) < 0) = false := decide_eq_false (by omega)
    have d1 : decide (has.length ≤ p) = false := decide_eq_false (by omega)
    have HE := Lib.hid (evenB_node l r)
    have hp : p < has.length := by omega
    clear ihl ihr hk hs hle
    have hal := at_bd l (p + 1)
    have har := at_bd r (p + 1 + l.size)
    generalize l.at_ (p + 1) = il at *
    generalize r.at_ (p + 1 + l.size) = ir at *
    clear hal har
    generalize l.tall = a at *
    generalize r.tall = b' at *
    have qL := Lib.hid (fun n => (HTL.out n).mono (fun _ _ h => (⟨h.1, n, h.2.symm⟩ : _ ∧ ∃ m, _ = w.drewN m)))
    have qR := Lib.hid (fun n => (HTR.out n).mono (fun _ _ h => (⟨h.1, n, h.2.symm⟩ : _ ∧ ∃ m, _ = w.drewN m)))
    clear HTL HTR
    have s1 : IntKind.i64.wrap (a - b') = a - b' := IntWalk.i64_in _ (by omega)
    have s2 : IntKind.i64.wrap (b' - a) = b' - a := IntWalk.i64_in _ (by omega)
    have S := Lib.hid (And.intro s1 s2)
    clear s1 s2
    by_cases c1 : a - b' ≤ 1
    case neg =>
      have e1 : decide (a - b' ≤ 1) = false := decide_eq_false c1
      have HF := Lib.hid (show (BT.node l r).even = false by rw [HE.out, e1]; rfl)
      clear HE
      go_enter Try.func39, Try.ntmps39
      go_wp2_with fail
      go_quiet ((first | (go_at_call_of 51 (il); exact qL.out _) | (go_at_call_of 51 (ir); exact qR.out _)))
      go_wp2
      go_ret
      exact ⟨by rw [HF.out]; rfl, _, rfl⟩
    have e1 : decide (a - b' ≤ 1) = true := decide_eq_true c1
    by_cases c2 : b' - a ≤ 1
    case neg =>
      have e2 : decide (b' - a ≤ 1) = false := decide_eq_false c2
      have HF := Lib.hid (show (BT.node l r).even = false by rw [HE.out, e1, e2]; rfl)
      clear HE
      go_enter Try.func39, Try.ntmps39
      go_wp2_with fail
      go_quiet ((first | (go_at_call_of 51 (il); exact qL.out _) | (go_at_call_of 51 (ir); exact qR.out _)))
      go_wp2
      go_ret
      exact ⟨by rw [HF.out]; rfl, _, rfl⟩
    have e2 : decide (b' - a ≤ 1) = true := decide_eq_true c2
    cases c3 : l.even with
    | false =>
      have HF := Lib.hid (show (BT.node l r).even = false by rw [HE.out, e1, e2, c3]; rfl)
      rw [c3] at HL
      clear HE c3
      go_enter Try.func39, Try.ntmps39
      go_wp2_with fail
      go_quiet ((first | (go_at_call_of 51 (il); exact qL.out _) | (go_at_call_of 51 (ir); exact qR.out _)))
      go_wp2_with fail
      refine (HL.out _).mono ?_
      rintro e w1 ⟨rfl, n1, rfl⟩
      go_wp2
      go_ret
      exact ⟨by rw [HF.out]; rfl, _, rfl⟩
    | true =>
      have HF := Lib.hid (show (BT.node l r).even = r.even by rw [HE.out, e1, e2, c3]; rfl)
      rw [c3] at HL
      clear HE c3
      go_enter Try.func39, Try.ntmps39
      go_wp2_with fail
      go_quiet ((first | (go_at_call_of 51 (il); exact qL.out _) | (go_at_call_of 51 (ir); exact qR.out _)))
      go_wp2_with fail
      refine (HL.out _).mono ?_
      rintro e w1 ⟨rfl, n1, rfl⟩
      go_wp2_with fail
      refine (HR.out _).mono ?_
      rintro e w1 ⟨rfl, n2, rfl⟩
      go_wp2
      go_ret
      exact ⟨by rw [HF.out]; rfl, _, rfl⟩
theorem betw_node (p : Nat) (l r : BT) : (BT.node l r).betw p = (l.betw (p + 1) ++ [(p : Int)]) ++ r.betw (p + 1 + l.size) := by simp [BT.betw]
set_option maxRecDepth 100000 in
set_option maxHeartbeats 1600000 in
theorem between_calls (has : List (List Bool)) (hn : has.length ≤ 5000000000) (kv : Value) : ∀ (t : BT) (p : Nat) (w : World), KT w w.heap.size kv has → Stands has p t →
    Calls Try.prog 40 #[kv, .int .i64 (t.at_ p)] w fun e w' => ∃ v, e = .returned v ∧ w'.ownsRow w.heap.size 3 1 v (t.betw p).length ((t.betw p).map i64v) ∧ Below w.heap.size w w' := by
  intro t
  induction t with
  | nil =>
    intro p w hk _
    obtain ⟨A, c, rfl⟩ := hk.form
    show Calls _ _ #[_, .int .i64 (-1)] _ _
    clear hk
    go_enter Try.func40, Try.ntmps40
    go_wp2
    go_ret
    exact ⟨_, rfl, World.ownsRow_nil _ _ _ _, Below.refl _ _⟩
  | node l r ihl ihr =>
    intro p w hk hs
    obtain ⟨i0, hi0, hz0, hz1, hz2⟩ := info_parts Try.infoInt
    have hle := hs.le
    simp only [BT.size] at hle
    obtain ⟨A, c, rfl⟩ := hk.form
    obtain ⟨b, off, b2, off2, c2, rfl, h1, h2, q0, q1, q2⟩ := hk.at_ hs
    have HL := Lib.hid (ihl (p + 1) w hk hs.left)
    have HR := Lib.hid (fun w' (hb : Below w.heap.size w w') => ihr (p + 1 + l.size) w' ((hk.below hb).mono hb.size) hs.right)
    have HCQ := Lib.hid (show ∀ w', Below w.heap.size w w' → w'.cell? ⟨b, off + p, none⟩ = some (.slice (some ⟨b2, off2, none⟩) 2 c2) ∧ w'.cell? ⟨b2, off2 + 1, none⟩ = some (.int .i64 (r.at_ (p + 1 + l.size))) from
      fun w' hb => ⟨(hb.cell (p := ⟨b, off + p, none⟩) (World.block_lt_of_cell? w ⟨b, off + p, none⟩ q0)).trans q0, (hb.cell (p := ⟨b2, off2 + 1, none⟩) (World.block_lt_of_cell? w ⟨b2, off2 + 1, none⟩ q2)).trans q2⟩)
    show Calls _ _ #[_, .int .i64 (p : Int)] _ _
    have d0 : decide ((p : Int) < 0) = false := decide_eq_false (by omega)
    have d1 : decide (has.length ≤ p) = false := decide_eq_false (by omega)
    have HE := Lib.hid (betw_node p l r)
    have hp : p < has.length := by omega
    have ll := l.betw_len (p + 1)
    have lr := r.betw_len (p + 1 + l.size)
    have hbd : (l.betw (p + 1)).length + (r.betw (p + 1 + l.size)).length ≤ 5000000000 := by omega
    clear ihl ihr hk hs hle ll lr
    generalize l.at_ (p + 1) = il at *
    generalize r.at_ (p + 1 + l.size) = ir at *
    generalize l.betw (p + 1) = bl at *
    generalize r.betw (p + 1 + l.size) = br at *
    go_enter Try.func40, Try.ntmps40
    go_wp2_with fail
    refine HL.out.mono ?_
    rintro e w1 ⟨v1, rfl, o1, b1⟩
    obtain ⟨A1, c1, rfl⟩ := kd_form o1
    have O1 := Lib.hid o1
    have hb1 := b1.size
    clear o1
    go_wp2_with (at_builtin; refine wpList_append_own _ rfl (.tmp 21) (.tmp 23) 26 rfl w.heap.size 3 i0 _ 1 8 Try.underlying26 hi0 hz0 hz1 hz2 rfl (by omega) _ bl.length (bl.map i64v) rfl (O1.out.alloc _) ⟨w1.heap.size, 0, none⟩ 1 1 [.int .i64 p] rfl rfl (kd_news (Blk.new w1 _ _)) (by simp [Value.oneCell']) (by unfold maxLen; omega) (by omega) (by simp; omega) ?_; intro v2 w2 o2 g2 _; have B2 : Below w.heap.size w w2 := (b1.alloc hb1 _).grown g2 (by simp; omega) (fun g hg => (O1.out.lt g hg).1); have q0' := (HCQ.out w2 B2).1; have q2' := (HCQ.out w2 B2).2)
    have O2 := Lib.hid (show w2.ownsRow w.heap.size 3 1 v2 (bl ++ [(p : Int)]).length ((bl ++ [(p : Int)]).map i64v) by simpa using o2)
    clear o2
    refine (HR.out w2 B2).mono ?_
    rintro e w3 ⟨v3, rfl, o3, b3⟩
    have hz : w2.heap.size ≤ w3.heap.size := b3.size
    have hB2 := B2.size
    have O3 := Lib.hid (kd_below b3 O2.out)
    have S3 := Lib.hid (own_SlC (l := br) num1_len (by rw [num1_flat]; exact o3))
    have N3 := Lib.hid (show ∀ m c, v3 = .slice none m c → m = 0 ∧ c = 0 by
      intro m c e
      rcases o3.2 with ⟨e1, e2⟩ | ⟨g, cap, cur, e1, _⟩
      · rw [e1] at e; cases e; exact ⟨rfl, rfl⟩
      · rw [e1] at e; cases e)
    clear o3
    go_wp2_with (at_builtin; refine wpList_append_C num1_len w3 rfl (.tmp 25) (.tmp 33) 26 rfl w.heap.size 3 i0 _ 8 Try.underlying26 hi0 hz0 hz1 hz2 rfl (by omega) v2 (bl ++ [(p : Int)]).length ((bl ++ [(p : Int)]).map i64v) rfl O3.out v3 br rfl S3.out N3.out (by intro a; simp [num1, Value.oneCell']) (by unfold maxLen; simp; omega) (by simp; omega) (by omega) ?_; intro v4 w4 o4 g4)
    go_ret
    refine ⟨v4, rfl, ?_, (B2.trans (b3.mono hB2)).grown g4 (by omega) (fun g hg => (O3.out.lt g hg).1)⟩
    rw [HE.out, List.length_append, List.map_append]
    rw [num1_flat] at o4
    exact o4
end Go.Proofs.Ytpnmgfiifaljjaa.Kp
