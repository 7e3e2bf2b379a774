/- interval trees without their blocks; what scripts tell; the plain law: no program in sight. -/
import Derived.Test.YtomclflknjkhfaaItP
namespace Go.Proofs.Ytomclflknjkhfaa.ItP

def IT.er : IT → IT
  | .nil => .nil
  | .node _ s h m l r => .node 0 s h m l.er r.er
theorem er_ht (t : IT) : t.er.ht = t.ht := by cases t <;> rfl
theorem er_mxl (m : Int) (t : IT) : t.er.mxl m = t.mxl m := by cases t <;> rfl
theorem er_htOf (l r : IT) : htOf l.er r.er = htOf l r := by unfold htOf; rw [er_ht, er_ht]
theorem er_mxOf (x : Int) (l r : IT) : mxOf x l.er r.er = mxOf x l r := by unfold mxOf; rw [er_mxl, er_mxl]
theorem er_mkN (b : Nat) (s : Sp) (l r : IT) : (mkN b s l r).er = mkN 0 s l.er r.er := by unfold mkN; simp only [IT.er, er_htOf, er_mxOf]
theorem er_rotL : ∀ t : IT, (rotL t).er = rotL t.er
  | .nil => rfl
  | .node _ _ _ _ _ .nil => rfl
  | .node b s _ _ l (.node c s2 _ _ l2 r2) => by simp only [rotL, IT.er, er_mkN]
theorem er_rotR : ∀ t : IT, (rotR t).er = rotR t.er
  | .nil => rfl
  | .node _ _ _ _ .nil _ => rfl
  | .node b s _ _ (.node c s2 _ _ l2 r2) r => by simp only [rotR, IT.er, er_mkN]
theorem er_fixR : ∀ t : IT, (fixR t).er = fixR t.er
  | .nil => rfl
  | .node c s h m l r => by
    simp only [fixR, IT.er, er_ht]
    split
    · rw [er_rotR]; rfl
    · rfl
theorem er_fixL : ∀ t : IT, (fixL t).er = fixL t.er
  | .nil => rfl
  | .node c s h m l r => by
    simp only [fixL, IT.er, er_ht]
    split
    · rw [er_rotL]; rfl
    · rfl
theorem er_reb : ∀ t : IT, (reb t).er = reb t.er
  | .nil => rfl
  | .node b s h m l r => by
    simp only [reb, IT.er, er_ht]
    split
    · rw [er_rotL]; simp only [IT.er, er_fixR, er_htOf, er_mxOf]
    · split
      · rw [er_rotR]; simp only [IT.er, er_fixL, er_htOf, er_mxOf]
      · rw [er_mkN]
theorem er_ins (s : Sp) (ow : Bool) (nb : Nat) : ∀ t : IT, (t.ins s ow nb).er = t.er.ins s ow 0
  | .nil => rfl
  | .node b s2 h m l r => by
    simp only [IT.ins, IT.er]
    split
    · rw [er_reb]; simp only [IT.er, er_ins s ow nb l]
    · split
      · rw [er_reb]; simp only [IT.er, er_ins s ow nb r]
      · split
        · rw [er_reb]; simp only [IT.er]
        · rfl
theorem er_sz : ∀ t : IT, t.er.sz = t.sz
  | .nil => rfl
  | .node _ _ _ _ l r => by simp only [IT.er, IT.sz, er_sz l, er_sz r]
theorem er_get (lo : Int) : ∀ t : IT, t.er.get lo = t.get lo
  | .nil => rfl
  | .node _ s _ _ l r => by simp only [IT.er, IT.get, er_get lo l, er_get lo r]
theorem er_list : ∀ t : IT, t.er.list = t.list
  | .nil => rfl
  | .node _ s _ _ l r => by simp only [IT.er, IT.list, er_list l, er_list r]
theorem er_over (a b : Int) : ∀ (t : IT) (acc : List Sp), t.er.over a b acc = t.over a b acc
  | .nil, _ => rfl
  | .node _ s _ _ l r, acc => by simp only [IT.er, IT.over, er_over a b l, er_over a b r]
theorem er_rt : ∀ {t : IT}, t.Rt → t.er.Rt
  | .nil, h => h
  | .node _ s _ _ l r, h => ⟨⟨by rw [h.1.1, er_htOf], by rw [h.1.2, er_mxOf]⟩, er_rt h.2.1, er_rt h.2.2⟩
theorem er_least : ∀ t : IT, t.er.least.2 = t.least.2
  | .nil => rfl
  | .node b s _ _ .nil _ => rfl
  | .node _ _ _ _ (.node b s h m l r) _ => by
    have := er_least (.node b s h m l r)
    simpa only [IT.er, IT.least] using this
theorem er_nil {t : IT} : t.er = .nil ↔ t = .nil := by cases t <;> simp [IT.er]
theorem er_rem (n : Nat) : ∀ (t : IT) (lo : Int), t.sz ≤ n → (t.rem lo).er = t.er.rem lo := by
  induction n with
  | zero =>
    intro t lo hs
    cases t with
    | nil => rw [show IT.nil.er = .nil from rfl]; unfold IT.rem; rfl
    | node => simp [IT.sz] at hs
  | succ n ih =>
    intro t lo hs
    cases t with
    | nil => rw [show IT.nil.er = .nil from rfl]; unfold IT.rem; rfl
    | node b s h m l r =>
      simp only [IT.sz] at hs
      have hl := ih l lo (by omega)
      have hr := fun lo => ih r lo (by omega)
      simp only [IT.er]
      by_cases c1 : lo < s.lo
      · rw [rem_node, rem_node, if_pos c1, if_pos c1, er_reb]; simp only [IT.er, hl]
      · by_cases c2 : s.lo < lo
        · rw [rem_node, rem_node, if_neg c1, if_neg c1, if_pos c2, if_pos c2, er_reb]; simp only [IT.er, hr]
        · rw [rem_eq lo b s h m l r c1 c2, rem_eq lo 0 s h m l.er r.er c1 c2, er_reb]
          congr 1
          rcases l with _ | ⟨bl, sl, hl', ml, ll, rl⟩
          · rfl
          · rcases r with _ | ⟨br, sr, hr', mr, lr, rr⟩
            · rfl
            · have e1 := hr (IT.node br sr hr' mr lr rr).least.2.lo
              have e2 := er_least (.node br sr hr' mr lr rr)
              simp only [IT.er] at e1 e2
              simp only [remTop, IT.er]
              rw [e2, e1]
/-- a step of a script. -/
structure MarkD where
  act : Int
  lo : Int
  hi : Int
  val : Int
/-- what a step tells. -/
structure FoundD where
  one : Sp
  ok : Bool
  all : List Sp
  n : Int
def zSp : Sp := ⟨0, 0, 0⟩
def MarkD.sp (a : MarkD) : Sp := ⟨a.lo, a.hi, a.val⟩
def gotD (o : Option Sp) : FoundD := ⟨o.getD zSp, o.isSome, [], 0⟩
def nextI (a : MarkD) (nb : Nat) (t : IT) : IT := if a.act = 0 then t.ins a.sp true nb else if a.act = 1 then t.ins a.sp false nb else if a.act = 2 then t.rem a.lo else t
def toldI (a : MarkD) (t : IT) : FoundD :=
  if a.act = 0 ∨ a.act = 1 ∨ a.act = 2 ∨ a.act = 3 then gotD (t.get a.lo)
  else if a.act = 4 then ⟨zSp, false, t.over a.lo a.hi [], 0⟩
  else if a.act = 5 then ⟨zSp, false, t.list, 0⟩
  else if a.act = 6 then ⟨zSp, false, [], t.list.length⟩
  else if a.act = 7 then ⟨zSp, false, [], t.ht⟩
  else ⟨zSp, false, [], 0⟩
theorem er_next (a : MarkD) (nb : Nat) (t : IT) : (nextI a nb t).er = nextI a 0 t.er := by
  unfold nextI
  split
  · rw [er_ins]
  · split
    · rw [er_ins]
    · split
      · rw [er_rem t.sz t _ (Nat.le_refl _)]
      · rfl
theorem er_told (a : MarkD) (t : IT) : toldI a t.er = toldI a t := by unfold toldI; simp only [er_get, er_over, er_list, er_ht]
def runI (t : IT) : List MarkD → IT × List FoundD
  | [] => (t, [])
  | a :: l => ((runI (nextI a 0 t) l).1, toldI a t :: (runI (nextI a 0 t) l).2)
theorem runI_append (t : IT) : ∀ l m : List MarkD, runI t (l ++ m) = ((runI (runI t l).1 m).1, (runI t l).2 ++ (runI (runI t l).1 m).2)
  := by
  intro l
  induction l generalizing t with
  | nil => intro m; rfl
  | cons a l ih => intro m; simp only [List.cons_append, runI, ih]
theorem runI_len (t : IT) : ∀ l : List MarkD, (runI t l).2.length = l.length := by
  intro l
  induction l generalizing t with
  | nil => rfl
  | cons a l ih => simp only [runI, List.length_cons, ih]
/-- what holds of a tree behind a script. -/
structure IT.Good (t : IT) : Prop where
  rt : t.Rt
  ri : Rises t.list
theorem good_next {a : MarkD} {nb : Nat} {t : IT} (h : t.Good) : (nextI a nb t).Good := by
  unfold nextI
  split
  · exact ⟨ins_rt _ _ _ h.rt, by rw [ins_list _ _ _ _ h.ri]; exact insL_rises _ _ _ h.ri⟩
  · split
    · exact ⟨ins_rt _ _ _ h.rt, by rw [ins_list _ _ _ _ h.ri]; exact insL_rises _ _ _ h.ri⟩
    · split
      · exact ⟨rem_rt t.sz t _ (Nat.le_refl _) h.rt, by rw [rem_list t.sz t _ (Nat.le_refl _) h.ri]; exact remL_rises h.ri⟩
      · exact h
theorem good_run : ∀ (l : List MarkD) (t : IT), t.Good → (runI t l).1.Good
  | [], _, h => h
  | _ :: l, _, h => good_run l _ (good_next h)
theorem good_nil : IT.Good .nil := ⟨trivial, List.Pairwise.nil⟩
theorem insL_len (s : Sp) (ow : Bool) : ∀ xs : List Sp, (insL s ow xs).length ≤ xs.length + 1
  | [] => by simp [insL]
  | x :: xs => by
    unfold insL
    split
    · simp
    · split
      · have := insL_len s ow xs; simp; omega
      · split <;> simp
theorem next_ids {a : MarkD} {nb : Nat} {t : IT} (hn : t.ids.Nodup) (h0 : nb ∉ t.ids) : (nextI a nb t).ids.Nodup ∧ (∀ i ∈ (nextI a nb t).ids, i ∈ t.ids ∨ i = nb) ∧ (nextI a nb t).ids.length ≤ t.ids.length + 1 := by
  have hI : ∀ s ow, (t.ins s ow nb).ids.Nodup ∧ (∀ i ∈ (t.ins s ow nb).ids, i ∈ t.ids ∨ i = nb) ∧ (t.ins s ow nb).ids.length ≤ t.ids.length + 1 := by
    intro s ow
    rcases ins_ids s ow nb t with h | h
    · exact ⟨h.nodup_iff.2 hn, fun i hi => .inl (h.mem_iff.1 hi), by rw [h.length_eq]; omega⟩
    · refine ⟨h.nodup_iff.2 (List.nodup_cons.2 ⟨h0, hn⟩), fun i hi => ?_, by rw [h.length_eq]; simp⟩
      rcases List.mem_cons.1 (h.mem_iff.1 hi) with h | h
      · exact .inr h
      · exact .inl h
  unfold nextI
  split
  · exact hI _ _
  · split
    · exact hI _ _
    · split
      · obtain ⟨h1, h2, h3⟩ := rem_sub (t := t) (lo := a.lo) hn
        exact ⟨h1, fun i hi => .inl (h2 i hi), by omega⟩
      · exact ⟨hn, fun i hi => .inl hi, by omega⟩
theorem told_len {a : MarkD} {t : IT} (h : t.Good) : (toldI a t).all.length ≤ t.list.length := by
  have h4 : (t.over a.lo a.hi []).length ≤ t.list.length := by
    rw [over_list _ _ _ _ h.rt h.ri]
    simpa using List.length_filter_le _ t.list
  unfold toldI gotD
  repeat' split
  all_goals first | (simp; done) | exact h4
theorem next_len {a : MarkD} {nb : Nat} {t : IT} (h : t.Good) : (nextI a nb t).list.length ≤ t.list.length + 1 := by
  unfold nextI
  split
  · rw [ins_list _ _ _ _ h.ri]; exact insL_len _ _ _
  · split
    · rw [ins_list _ _ _ _ h.ri]; exact insL_len _ _ _
    · split
      · rw [rem_list t.sz t _ (Nat.le_refl _) h.ri]; unfold remL
        have := List.length_filter_le (fun x : Sp => !(x.lo == a.lo)) t.list; omega
      · omega
theorem run_told_len : ∀ (l : List MarkD) (t : IT), t.Good → ∀ d ∈ (runI t l).2, d.all.length ≤ t.list.length + l.length
  | [], _, _, d, hd => by simp [runI] at hd
  | a :: l, t, h, d, hd => by
    simp only [runI, List.mem_cons] at hd
    rcases hd with rfl | hd
    · have := told_len (a := a) h; simp; omega
    · have h1 := run_told_len l _ (good_next (a := a) (nb := 0) h) d hd
      have h2 := next_len (a := a) (nb := 0) h
      simp; omega
end Go.Proofs.Ytomclflknjkhfaa.ItP
