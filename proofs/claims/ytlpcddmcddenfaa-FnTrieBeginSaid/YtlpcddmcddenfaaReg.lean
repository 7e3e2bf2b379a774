/- A region that draws its order, run once: every operation yields the same value in whatever world meets S, and S stays. -/
import Derived.WalkKit
import Derived.Deep.RegionHeld
namespace Go.Proofs.Ytlpcddmcddenfaa
open Go Go.RowKit

section
variable {P : Program} {ops : Array Oper}

/-- the frame behind those of the first k operations that are listed. -/
def puts (ops : Array Oper) (vs : Nat → Value) (L : Nat → Bool) : Nat → Act → Act
  | 0, a => a
  | k + 1, a => if L k then match ops[k]? with
      | some o => (puts ops vs L k a).put o.dst (vs k)
      | none => puts ops vs L k a
    else puts ops vs L k a
/-- edges point back, and what is not waited for is apart. -/
def inOrder (md : Region.Mode) (ops : Array Oper) : Bool := (List.range ops.size).all fun i => match ops[i]? with
  | none => true
  | some oi => oi.after.all (fun e => !Region.binds md e || decide (e.on < i)) && (List.range i).all fun j => match ops[j]? with
    | none => true
    | some oj => oi.after.any (fun e => Region.binds md e && e.on == j) || oj.apart ops oi
theorem inOrder_back {md : Region.Mode} (h : inOrder md ops = true) {i : Nat} {oi : Oper} (hi : ops[i]? = some oi) : ∀ e ∈ oi.after, Region.binds md e = true → e.on < i := by
  intro e he hb
  have h1 := List.all_eq_true.1 h i (List.mem_range.2 (Array.getElem?_eq_some_iff.1 hi).1)
  rw [hi] at h1
  have h2 := Array.all_eq_true_iff_forall_mem.1 (Bool.and_eq_true_iff.1 h1).1 e he
  simpa [hb] using h2
theorem inOrder_apart {md : Region.Mode} (h : inOrder md ops = true) {i j : Nat} {oi oj : Oper} (hi : ops[i]? = some oi) (hj : ops[j]? = some oj) (hl : j < i)
    (hn : ∀ e ∈ oi.after, Region.binds md e = true → e.on ≠ j) : oj.apart ops oi = true := by
  have h1 := List.all_eq_true.1 h i (List.mem_range.2 (Array.getElem?_eq_some_iff.1 hi).1)
  rw [hi] at h1
  have h2 := List.all_eq_true.1 (Bool.and_eq_true_iff.1 h1).2 j (List.mem_range.2 hl)
  rw [hj] at h2
  rcases Bool.or_eq_true_iff.1 h2 with h3 | h3
  · obtain ⟨e, he, hb⟩ := Array.any_eq_true'.1 h3
    simp only [Bool.and_eq_true, beq_iff_eq] at hb
    exact absurd hb.2 (hn e he hb.1)
  · exact h3
/-- they agree on what o looks at. -/
def Agree (ops : Array Oper) (o : Oper) (a b : Act) : Prop := a.tmps.size = b.tmps.size ∧ ∀ t ∈ o.looksAt ops, a.tmps[t]? = b.tmps[t]?
theorem put_size (a : Act) (d : Option Tmp) (v : Value) : (a.put d v).tmps.size = a.tmps.size := by cases d <;> simp [Act.put]
theorem Agree.put {o : Oper} {a b : Act} (h : Agree ops o a b) (d : Option Tmp) (v : Value) : Agree ops o (a.put d v) (b.put d v) := by
  refine ⟨by rw [put_size, put_size]; exact h.1, fun t ht => ?_⟩
  cases d with
  | none => exact h.2 t ht
  | some d =>
    by_cases e : d = t
    · subst e; simp [Act.put, Array.getElem?_setIfInBounds, h.1]
    · simp [Act.put, Array.getElem?_setIfInBounds_ne e, h.2 t ht]
theorem Agree.put_left {o : Oper} {a b : Act} (h : Agree ops o a b) {d : Option Tmp} (v : Value) (hd : ∀ x, d = some x → x ∉ o.looksAt ops) : Agree ops o (a.put d v) b := by
  refine ⟨by rw [put_size]; exact h.1, fun t ht => ?_⟩
  cases d with
  | none => exact h.2 t ht
  | some d =>
    have e : d ≠ t := fun e => hd d rfl (e ▸ ht)
    simp [Act.put, Array.getElem?_setIfInBounds_ne e, h.2 t ht]
theorem Agree.symm {o : Oper} {a b : Act} (h : Agree ops o a b) : Agree ops o b a := ⟨h.1.symm, fun t ht => (h.2 t ht).symm⟩
theorem Agree.exec {o : Oper} {a b : Act} (h : Agree ops o a b) (hs : ∀ cs b, o.op ≠ .select cs b) : execOp a.eval o = execOp b.eval o :=
  execOp_congr o hs fun x hx => by
    cases x with
    | tmp t =>
      have := h.2 t (List.mem_append_left _ (List.mem_filterMap.2 ⟨.tmp t, by simpa using hx, rfl⟩))
      simp [Act.eval, this]
    | _ => rfl
theorem Agree.wanted {o : Oper} {a b : Act} (h : Agree ops o a b) : Region.wanted o (yielded ops a.tmps) = Region.wanted o (yielded ops b.tmps) := by
  unfold Region.wanted
  cases hg : o.guard with
  | none => rfl
  | some gw =>
    obtain ⟨g, want⟩ := gw
    have hy : yielded ops a.tmps g = yielded ops b.tmps g := by
      unfold yielded
      cases ht : (ops[g]?).bind (·.dst) with
      | none => rfl
      | some t =>
        have := h.2 t (List.mem_append_right _ (by simp [hg, ht]))
        simp [this]
    simp only [hy]
/-- what an operation's run leaves: v, and S. -/
def Leaves (P : Program) (S : World → Prop) (v : Value) : Result Next → Prop
  | .ok (.value u) w' => u = v ∧ S w'
  | .ok .skip w' => v = undef ∧ S w'
  | .ok (.enter f args) w' => Calls P f args w' fun e w'' => e = .returned v ∧ S w''
  | .ok (.row row args) w' => Rows P row args w' fun u w'' => u = v ∧ S w''
  | _ => False
/-- operation o yields v at a, in every world that meets S, and S stays. -/
def Does (P : Program) (ops : Array Oper) (S : World → Prop) (o : Oper) (v : Value) (a : Act) : Prop :=
  (Region.wanted o (yielded ops a.tmps) = true ∧ ∀ w, S w → Leaves P S v ((execOp a.eval o).run P w)) ∨
  (Region.wanted o (yielded ops a.tmps) = false ∧ v = undef)
theorem Does.agree {S : World → Prop} {o : Oper} {v : Value} {a b : Act} (h : Does P ops S o v a) (hs : ∀ cs b, o.op ≠ .select cs b) (g : Agree ops o a b) : Does P ops S o v b := by
  unfold Does at *
  rw [← g.exec hs, ← g.wanted]
  exact h
theorem Does.wpOp {S : World → Prop} {Q : Exit → Act → World → Prop} {i : Nat} {o : Oper} {v : Value} {a : Act} (hi : ops[i]? = some o) (hy : Does P ops S o v a) {K : Act → World → Prop} {w : World} (hS : S w)
    (hK : ∀ w', S w' → K (a.put o.dst v) w') : wpOp P ops Q i K a w := by
  unfold Go.wpOp
  simp only [hi]
  rcases hy with ⟨hw, hv⟩ | ⟨hw, rfl⟩
  · simp only [hw, if_true]
    refine .inl ?_
    have h := hv w hS
    unfold Oper.wp
    generalize (execOp a.eval o).run P w = r at h
    cases r with
    | ok n w' =>
      cases n <;> simp only [Leaves, Oper.upon] at h ⊢
      · obtain ⟨rfl, h⟩ := h; exact hK _ h
      · obtain ⟨rfl, h⟩ := h; exact hK _ h
      · refine Calls.mono h ?_
        rintro e w'' ⟨rfl, h2⟩
        exact hK _ h2
      · refine Rows.mono h ?_
        rintro u w'' ⟨rfl, h2⟩
        exact hK _ h2
    | halt x w' => simp only [Leaves] at h
  · simp only [hw, Bool.false_eq_true, if_false]; exact hK _ hS
theorem puts_size (vs : Nat → Value) (L : Nat → Bool) (a : Act) : ∀ k, (puts ops vs L k a).tmps.size = a.tmps.size
  | 0 => rfl
  | k + 1 => by
    unfold puts
    split
    · split
      · rw [put_size]; exact puts_size vs L a k
      · exact puts_size vs L a k
    · exact puts_size vs L a k
/-- what is listed is closed under what is waited for. -/
def Closed (md : Region.Mode) (ops : Array Oper) (L : Nat → Bool) : Prop := ∀ k o, ops[k]? = some o → L k = true → ∀ e ∈ o.after, Region.binds md e = true → L e.on = true
/-- the operations ahead of i: those that are not listed don't matter to i. -/
theorem agree_before {md : Region.Mode} (ho : inOrder md ops = true) {vs : Nat → Value} {L : Nat → Bool} {i : Nat} {oi : Oper} (hi : ops[i]? = some oi) (hr : ∀ e ∈ oi.after, Region.binds md e = true → L e.on = true) (a : Act) :
    ∀ k, k ≤ i → Agree ops oi (puts ops vs L k a) (puts ops vs (fun _ => true) k a)
  | 0, _ => ⟨rfl, fun _ _ => rfl⟩
  | k + 1, hk => by
    have ih := agree_before ho (vs := vs) hi hr a k (by omega)
    unfold puts
    rw [if_pos rfl]
    cases hL : L k with
    | true =>
      rw [if_pos rfl]
      cases h : ops[k]? with
      | none => exact ih
      | some o => exact ih.put _ _
    | false =>
      rw [if_neg Bool.false_ne_true]
      cases h : ops[k]? with
      | none => exact ih
      | some o =>
        have hap := inOrder_apart ho hi h (by omega) (fun e he hb heq => by have := hr e he hb; rw [heq, hL] at this; cases this)
        exact (ih.symm.put_left _ (Oper.apart_spec hap).1).symm
theorem puts_succ (vs : Nat → Value) (L : Nat → Bool) (k : Nat) (a : Act) : puts ops vs L (k + 1) a = if L k then match ops[k]? with
      | some o => (puts ops vs L k a).put o.dst (vs k)
      | none => puts ops vs L k a
    else puts ops vs L k a := rfl
/-- the operations behind i that are listed don't matter to i. -/
theorem agree_behind {md : Region.Mode} (ho : inOrder md ops = true) {vs : Nat → Value} {L : Nat → Bool} (hc : Closed md ops L) {i : Nat} {oi : Oper} (hi : ops[i]? = some oi) (hr : ∀ e ∈ oi.after, Region.binds md e = true → L e.on = true) (hL : L i = false) (a : Act) :
    ∀ k, i ≤ k → Agree ops oi (puts ops vs L k a) (puts ops vs (fun _ => true) i a)
  | 0, hk => by obtain rfl : i = 0 := by omega
                exact agree_before ho hi hr a 0 (Nat.le_refl _)
  | k + 1, hk => by
    by_cases e : i = k + 1
    · subst e; exact agree_before ho hi hr a _ (Nat.le_refl _)
    have ih := agree_behind ho (vs := vs) hc hi hr hL a k (by omega)
    rw [puts_succ vs L]
    cases hLk : L k with
    | false => rw [if_neg Bool.false_ne_true]; exact ih
    | true =>
      rw [if_pos rfl]
      cases h : ops[k]? with
      | none => exact ih
      | some o =>
        have hne : i ≠ k := fun e => by subst e; rw [hL] at hLk; cases hLk
        have hap := inOrder_apart ho h hi (by omega) (fun e he hb heq => by have := hc k o h hLk e he hb; rw [heq, hL] at this; cases this)
        exact ih.put_left _ (Oper.apart_spec hap).2.2
/-- how many of the first k are not listed. -/
def cnt (L : Nat → Bool) : Nat → Nat
  | 0 => 0
  | k + 1 => cnt L k + if L k then 0 else 1
theorem cnt_zero {L : Nat → Bool} : ∀ k, cnt L k = 0 → ∀ i, i < k → L i = true
  | 0, _, i, hi => by omega
  | k + 1, h, i, hi => by
    unfold cnt at h
    by_cases e : i = k
    · subst e
      cases hL : L i with
      | true => rfl
      | false => rw [hL] at h; simp at h
    · exact cnt_zero k (by omega) i (by omega)
theorem cnt_set {L L' : Nat → Bool} {i : Nat} (hL : L i = false) (hi' : L' i = true) (hne : ∀ j, j ≠ i → L' j = L j) : ∀ k, cnt L k = cnt L' k + if i < k then 1 else 0
  | 0 => rfl
  | k + 1 => by
    have ih := cnt_set hL hi' hne k
    unfold cnt
    by_cases e : k = i
    · subst e; rw [hL, hi', if_pos (Nat.lt_succ_self _)]; rw [if_neg (Nat.lt_irrefl _)] at ih; simp; omega
    · rw [hne k e]
      by_cases c : i < k
      · rw [if_pos c] at ih; rw [if_pos (show i < k + 1 by omega)]; omega
      · rw [if_neg c] at ih; rw [if_neg (show ¬ i < k + 1 by omega)]; omega
theorem cnt_none (L : Nat → Bool) (h : ∀ i, L i = false) : ∀ k, cnt L k = k
  | 0 => rfl
  | k + 1 => by unfold cnt; rw [cnt_none L h k, h k]; rfl
/-- one more is listed. -/
theorem puts_set {md : Region.Mode} (ho : inOrder md ops = true) {vs : Nat → Value} {L L' : Nat → Bool} (hc : Closed md ops L) {i : Nat} {oi : Oper} (hi : ops[i]? = some oi) (hL : L i = false) (hi' : L' i = true) (hne : ∀ j, j ≠ i → L' j = L j) (a : Act) :
    ∀ k, puts ops vs L' k a = if i < k then (puts ops vs L k a).put oi.dst (vs i) else puts ops vs L k a
  | 0 => by simp [puts]
  | k + 1 => by
    have ih := puts_set ho (vs := vs) hc hi hL hi' hne a k
    unfold puts
    by_cases e : k = i
    · subst e
      rw [if_neg (Nat.lt_irrefl _)] at ih
      rw [hi', hL, if_pos rfl, if_neg Bool.false_ne_true, if_pos (Nat.lt_succ_self _), hi, ih]
    · rw [hne k e]
      cases hLk : L k with
      | false =>
        rw [if_neg Bool.false_ne_true, if_neg Bool.false_ne_true, ih]
        by_cases c : i < k
        · rw [if_pos c, if_pos (by omega)]
        · rw [if_neg c, if_neg (by omega)]
      | true =>
        rw [if_pos rfl, if_pos rfl, ih]
        by_cases c : i < k
        · rw [if_pos c, if_pos (by omega)]
          cases h : ops[k]? with
          | none => rfl
          | some o =>
            have hap := inOrder_apart ho h hi c (fun e he hb heq => by have := hc k o h hLk e he hb; rw [heq, hL] at this; cases this)
            exact Act.put_comm _ _ _ (Oper.apart_spec hap).2.1
        · rw [if_neg c, if_neg (by omega)]
theorem any_order {md : Region.Mode} {S : World → Prop} {Q : Exit → Act → World → Prop} (ho : inOrder md ops = true) (hs : Region.noSelect ops = true) (vs : Nat → Value) (a : Act)
    (hd : ∀ i o, ops[i]? = some o → Does P ops S o (vs i) (puts ops vs (fun _ => true) i a))
    (hQ : ∀ w, S w → Q .normal (puts ops vs (fun _ => true) ops.size a) w) :
    ∀ (fuel : Nat) (listed : Array Bool) (w : World), listed.size = ops.size → Closed md ops (fun i => listed.getD i false) → S w → cnt (fun i => listed.getD i false) ops.size ≤ fuel → wpAny P md ops Q fuel listed (puts ops vs (fun i => listed.getD i false) ops.size a) w := by
  have hall : ∀ (listed : Array Bool), listed.size = ops.size → Region.ready md ops listed = [] → ∀ i, i < ops.size → listed.getD i false = true := by
    intro listed hsz hr i
    induction i using Nat.strongRecOn with
    | ind i ih =>
      intro hi
      cases h : listed.getD i false with
      | true => rfl
      | false =>
        have : i ∈ Region.ready md ops listed := mem_ready.2 ⟨by simp at h ⊢; rw [Array.getElem?_eq_getElem (by omega)] at *; simpa using h, ops[i], by simp [hi], fun e he hb => ih e.on (inOrder_back ho (Array.getElem?_eq_getElem hi) e he hb) (by have := inOrder_back ho (Array.getElem?_eq_getElem hi) e he hb; omega)⟩
        rw [hr] at this; cases this
  have hend : ∀ (listed : Array Bool), (∀ i, i < ops.size → listed.getD i false = true) → ∀ k, k ≤ ops.size → puts ops vs (fun i => listed.getD i false) k a = puts ops vs (fun _ => true) k a := by
    intro listed h k
    induction k with
    | zero => intro _; rfl
    | succ k ih =>
      intro hk
      unfold puts
      rw [h k (by omega), if_pos rfl, if_pos rfl, ih (by omega)]
  intro fuel
  induction fuel with
  | zero =>
    intro listed w hsz hc hS h0
    have h := cnt_zero (L := fun i => listed.getD i false) ops.size (by omega)
    refine ⟨?_, by rw [hend listed h _ (Nat.le_refl _)]; exact hQ w hS⟩
    cases hr : Region.ready md ops listed with
    | nil => rfl
    | cons i l =>
      have hm : i ∈ Region.ready md ops listed := by rw [hr]; exact List.mem_cons_self
      obtain ⟨h1, o, ho', _⟩ := mem_ready.1 hm
      have hlt := (Array.getElem?_eq_some_iff.1 ho').1
      have h2 := h i hlt
      simp [Array.getElem?_eq_getElem (show i < listed.size by omega)] at h1 h2
      rw [h1] at h2; cases h2
  | succ fuel ih =>
    intro listed w hsz hc hS hcnt
    refine ⟨fun hr => by rw [hend listed (hall listed hsz hr) _ (Nat.le_refl _)]; exact hQ w hS, fun i hi => ?_⟩
    obtain ⟨h1, o, ho', hall'⟩ := mem_ready.1 hi
    have hlt := (Array.getElem?_eq_some_iff.1 ho').1
    have hL : listed.getD i false = false := by
      simp [Array.getElem?_eq_getElem (show i < listed.size by omega)] at h1 ⊢; exact h1
    have hdo := (hd i o ho').agree (Region.noSelect_spec hs i o · · ho') (agree_behind ho (vs := vs) hc ho' hall' hL a ops.size (by omega)).symm
    refine hdo.wpOp ho' hS fun w' hS' => ?_
    have hset := puts_set ho (vs := vs) (L := fun j => listed.getD j false) (L' := fun j => (listed.setIfInBounds i true).getD j false) hc ho' hL (by simp [hsz, hlt]) (fun j hj => getD_set_ne false (Ne.symm hj)) a ops.size
    rw [if_pos hlt] at hset
    rw [← hset]
    refine ih _ w' (by simpa using hsz) ?_ hS' ?_
    · intro k ok hk hk1 e he hb
      by_cases e1 : k = i
      · subst e1
        rw [ho'] at hk; cases hk
        exact getD_set_true (hall' e he hb)
      · have hk2 : listed.getD k false = true := by rw [← getD_set_ne false (Ne.symm e1)]; exact hk1
        exact getD_set_true (hc k ok hk hk2 e he hb)
    · have := cnt_set (L := fun j => listed.getD j false) (L' := fun j => (listed.setIfInBounds i true).getD j false) hL (by simp [hsz, hlt]) (fun j hj => getD_set_ne false (Ne.symm hj)) ops.size
      rw [if_pos hlt] at this
      omega
/-- the operations, one behind the other. -/
def Runs (P : Program) (ops : Array Oper) (S : World → Prop) : List Oper → Act → (Act → Prop) → Prop
  | [], a, F => F a
  | o :: os, a, F => ∃ v, Does P ops S o v a ∧ Runs P ops S os (a.put o.dst v) F
theorem Runs.vals {S : World → Prop} {F : Act → Prop} (a : Act) : ∀ (os : List Oper) (i : Nat) (pre : List Oper), ops.toList = pre ++ os → pre.length = i → ∀ (vs0 : Nat → Value), Runs P ops S os (puts ops vs0 (fun _ => true) i a) F →
    ∃ vs : Nat → Value, (∀ j, j < i → vs j = vs0 j) ∧ (∀ j o, i ≤ j → ops[j]? = some o → Does P ops S o (vs j) (puts ops vs (fun _ => true) j a)) ∧ F (puts ops vs (fun _ => true) ops.size a)
  | [], i, pre, he, hl, vs0, h => by
    have hn : ops.size = i := by rw [← Array.length_toList, he]; simp [hl]
    refine ⟨vs0, fun _ _ => rfl, fun j o hj ho => ?_, by rw [hn]; exact h⟩
    have := (Array.getElem?_eq_some_iff.1 ho).1
    omega
  | o :: os, i, pre, he, hl, vs0, h => by
    obtain ⟨v, hd, hr⟩ := h
    have hoi : ops[i]? = some o := by rw [← Array.getElem?_toList, he, List.getElem?_append_right (by omega)]; simp [hl]
    let vs1 : Nat → Value := fun j => if j = i then v else vs0 j
    have hsame : ∀ k, k ≤ i → puts ops vs1 (fun _ => true) k a = puts ops vs0 (fun _ => true) k a := by
      intro k
      induction k with
      | zero => intro _; rfl
      | succ k ih =>
        intro hk
        unfold puts
        have : vs1 k = vs0 k := if_neg (by omega)
        rw [ih (by omega), this]
    have hnext : puts ops vs1 (fun _ => true) (i + 1) a = (puts ops vs0 (fun _ => true) i a).put o.dst v := by
      rw [puts_succ, if_pos rfl, hoi]
      have : vs1 i = v := if_pos rfl
      rw [hsame i (Nat.le_refl _), this]
    obtain ⟨vs, g1, g2, g3⟩ := Runs.vals a os (i + 1) (pre ++ [o]) (by simp [he]) (by simp [hl]) vs1 (by rw [hnext]; exact hr)
    have hsame2 : ∀ k, k ≤ i → puts ops vs (fun _ => true) k a = puts ops vs0 (fun _ => true) k a := by
      intro k
      induction k with
      | zero => intro _; rfl
      | succ k ih =>
        intro hk
        unfold puts
        have : vs k = vs0 k := (g1 k (by omega)).trans (if_neg (by omega))
        rw [ih (by omega), this]
    refine ⟨vs, fun j hj => (g1 j (by omega)).trans (if_neg (by omega)), fun j o' hj ho' => ?_, g3⟩
    by_cases e : j = i
    · subst e
      rw [hoi] at ho'; cases ho'
      rw [hsame2 j (Nat.le_refl _), g1 j (by omega), show vs1 j = v from if_pos rfl]
      exact hd
    · exact g2 j o' (by omega) ho'
/-- a region that draws its order, walked once in the order of its text. -/
theorem region_runs {id : Nat} {os : List Oper} {S : World → Prop} {Q : Exit → Act → World → Prop} {a : Act} {w : World} (hm : P.follows .mixedOrders = true) (ho : inOrder .any os.toArray = true) (hs : Region.noSelect os.toArray = true)
    (hS : S w.drew) (h : Runs P os.toArray S os a (fun a' => ∀ w', S w' → Q .normal a' w')) : (Code.region id os.toArray true).wp P Q a w := by
  obtain ⟨vs, -, h2, h3⟩ := Runs.vals (P := P) a os 0 [] rfl rfl (fun _ => undef) h
  refine wp_region_any hm ?_
  have h0 : puts os.toArray vs (fun i => (Array.replicate os.toArray.size false).getD i false) os.toArray.size a = a := by
    have : ∀ k, puts os.toArray vs (fun i => (Array.replicate os.toArray.size false).getD i false) k a = a := by
      intro k
      induction k with
      | zero => rfl
      | succ k ih => rw [puts_succ, if_neg (by simp [Array.getElem?_replicate]; split <;> simp), ih]
    exact this _
  have := any_order (P := P) (Q := Q) ho hs vs a (fun i o hi => h2 i o (Nat.zero_le _) hi) (fun w' hw' => h3 w' hw') os.toArray.size (Array.replicate os.toArray.size false) w.drew (by simp) ?_ hS ?_
  · rw [h0] at this; exact this
  · intro k o _ hk
    simp [Array.getElem?_replicate] at hk
    split at hk <;> simp at hk
  · rw [cnt_none _ (by intro i; simp [Array.getElem?_replicate]; split <;> simp)]; exact Nat.le_refl _
theorem Leaves.enter {S : World → Prop} {v : Value} {f : FuncId} {args : Array Value} {w : World} (h : Calls P f args w fun e w' => e = .returned v ∧ S w') : Leaves P S v (.ok (.enter f args) w) := h
theorem Runs.take {S : World → Prop} {o : Oper} {os : List Oper} {a : Act} {F : Act → Prop} {v : Value} (hw : Region.wanted o (yielded ops a.tmps) = true) (hy : ∀ w, S w → (execOp a.eval o).run P w = .ok (.value v) w)
    (h : Runs P ops S os (a.put o.dst v) F) : Runs P ops S (o :: os) a F := ⟨v, .inl ⟨hw, fun w hS => by rw [hy w hS]; exact ⟨rfl, hS⟩⟩, h⟩
theorem Runs.off {S : World → Prop} {o : Oper} {os : List Oper} {a : Act} {F : Act → Prop} (hw : Region.wanted o (yielded ops a.tmps) = false)
    (h : Runs P ops S os (a.put o.dst undef) F) : Runs P ops S (o :: os) a F := ⟨undef, .inr ⟨hw, rfl⟩, h⟩
theorem Runs.call {S : World → Prop} {o : Oper} {os : List Oper} {a : Act} {F : Act → Prop} {v : Value} {f : FuncId} {args : Array Value} (hw : Region.wanted o (yielded ops a.tmps) = true) (hy : ∀ w, S w → (execOp a.eval o).run P w = .ok (.enter f args) w)
    (hc : ∀ w, S w → Calls P f args w fun e w' => e = .returned v ∧ S w')
    (h : Runs P ops S os (a.put o.dst v) F) : Runs P ops S (o :: os) a F := ⟨v, .inl ⟨hw, fun w hS => by rw [hy w hS]; exact hc w hS⟩, h⟩
end
end Go.Proofs.Ytlpcddmcddenfaa
