/- scripts on tries, and what the laws say of them; no program in sight. -/
import Derived.Test.YtlpcddmcddenfaaTriR
namespace Go.Proofs.Ytlpcddmcddenfaa.Tri

structure WordD where
  act : Int
  key : Txt
  val : Int
structure SaysD where
  val : Int
  ok : Bool
  key : Txt
  keys : List Txt
def says0 : SaysD := ⟨0, false, [], []⟩
structure St where
  t : Tr
  n : Int
def St.Wf (s : St) : Prop := s.t.Wf
def new0 : St := ⟨.nil, 0⟩
def putW (k : Txt) (v : Int) (s : St) : St := if k = [] then s else ⟨s.t.put k v, if (s.t.look k).isSome then s.n else s.n + 1⟩
def remW (k : Txt) (s : St) : St := if k = [] then s else ⟨s.t.rem k, s.n - 1⟩
def getW (k : Txt) (s : St) : Int × Bool := match s.t.look k with
  | some v => (v, true)
  | none => (0, false)
def tellW (w : WordD) (s : St) : SaysD :=
  if w.act = 2 then ⟨(getW w.key s).1, (getW w.key s).2, [], []⟩
  else if w.act = 3 then ⟨0, (s.t.look w.key).isSome, [], []⟩
  else if w.act = 4 then ⟨0, false, [], s.t.keys⟩
  else if w.act = 5 then ⟨0, false, [], kwp s.t w.key⟩
  else if w.act = 6 then ⟨0, false, w.key.take (s.t.long w.key), []⟩
  else if w.act = 7 then ⟨s.n, false, [], []⟩ else says0
def nextW (w : WordD) (s : St) : St := if w.act = 0 then putW w.key w.val s else if w.act = 1 then remW w.key s else s
def runS (s : St) : List WordD → St
  | [] => s
  | w :: l => runS (nextW w s) l
def runW (s : St) : List WordD → List SaysD
  | [] => []
  | w :: l => tellW w s :: runW (nextW w s) l
theorem runW_len : ∀ (l : List WordD) (s : St), (runW s l).length = l.length
  | [], _ => rfl
  | _ :: l, s => by simp [runW, runW_len l]
theorem runS_append : ∀ (a b : List WordD) (s : St), runS s (a ++ b) = runS (runS s a) b
  | [], _, _ => rfl
  | _ :: a, b, s => runS_append a b _
theorem runW_append : ∀ (a b : List WordD) (s : St), runW s (a ++ b) = runW s a ++ runW (runS s a) b
  | [], _, _ => rfl
  | w :: a, b, s => by simp [runW, runS, runW_append a b]
theorem runW_snoc (l : List WordD) (w : WordD) (s : St) : runW s (l ++ [w]) = runW s l ++ [tellW w (runS s l)] := by rw [runW_append]; rfl
theorem runS_take (l : List WordD) (s : St) {k : Nat} {w : WordD} (h : l[k]? = some w) : runS s (l.take (k + 1)) = nextW w (runS s (l.take k)) := by
  rw [List.take_add_one, h, runS_append]; rfl
theorem runW_take (l : List WordD) (s : St) {k : Nat} {w : WordD} (h : l[k]? = some w) : runW s (l.take (k + 1)) = runW s (l.take k) ++ [tellW w (runS s (l.take k))] := by
  rw [List.take_add_one, h]; exact runW_snoc _ _ _
theorem next_wf {w : WordD} {s : St} (h : s.Wf) : (nextW w s).Wf := by
  unfold nextW putW remW
  split
  · split
    · exact h
    · exact wf_put _ _ _ h
  · split
    · split
      · exact h
      · exact (rem_is _ _ h).1
    · exact h
theorem runS_wf : ∀ (l : List WordD) {s : St}, s.Wf → (runS s l).Wf
  | [], _, h => h
  | _ :: l, _, h => runS_wf l (next_wf h)
theorem runW_pre (l : List WordD) (s : St) (k : Nat) : runW s (l.take k) = (runW s l).take k := by
  have e := runW_append (l.take k) (l.drop k) s
  rw [List.take_append_drop] at e
  rw [e]
  rcases Nat.lt_or_ge k l.length with h | h
  · rw [List.take_append_of_le_length (by rw [runW_len, List.length_take]; omega)]
    exact (List.take_of_length_le (by rw [runW_len, List.length_take]; omega)).symm
  · rw [List.drop_of_length_le h, List.take_of_length_le h]
    show _ = List.take k (runW s l ++ [])
    rw [List.append_nil, List.take_of_length_le (by rw [runW_len]; exact h)]
/-- what is told rises. -/
theorem up_sub {a b : List Txt} (h : Up b) (hs : List.Sublist a b) : Up a := List.Pairwise.sublist hs h
theorem tell_up {w : WordD} {s : St} (h : s.Wf) : Up (tellW w s).keys := by
  unfold tellW
  split
  · exact List.Pairwise.nil
  · split
    · exact List.Pairwise.nil
    · split
      · exact keys_up _ h
      · split
        · show Up (kwp s.t w.key)
          rw [kwp_is _ h]
          exact up_sub (keys_up _ h) (List.filter_sublist ..)
        · split
          · exact List.Pairwise.nil
          · split <;> exact List.Pairwise.nil
theorem run_up : ∀ (l : List WordD) {s : St}, s.Wf → ∀ d ∈ runW s l, Up d.keys
  | [], _, _, _, h => by cases h
  | w :: l, s, hs, d, h => by
    rcases List.mem_cons.1 h with rfl | h
    · exact tell_up hs
    · exact run_up l (next_wf hs) d h
/-! what is put by unlike texts in any order -/
/-- puts of unlike texts that are not empty. -/
structure Puts (l : List WordD) : Prop where
  act : ∀ w ∈ l, w.act = 0 ∧ w.key ≠ []
  nd : l.Pairwise fun a b => a.key ≠ b.key
theorem runS_cons (w : WordD) (l : List WordD) (s : St) : runS s (w :: l) = runS (nextW w s) l := rfl
theorem puts_look : ∀ (l : List WordD) (s : St), Puts l → s.Wf → (∀ w ∈ l, s.t.look w.key = none) → (∀ k, (runS s l).t.look k = match l.find? (fun w => w.key == k) with
    | some w => some w.val
    | none => s.t.look k) ∧ (runS s l).n = s.n + l.length
  | [], s, _, _, _ => ⟨fun _ => rfl, by simp [runS]⟩
  | w :: l, s, hp, hs, hn => by
    obtain ⟨h1, h2⟩ := hp.act w (List.mem_cons_self ..)
    have hw := hn w (List.mem_cons_self ..)
    have e1 : nextW w s = ⟨s.t.put w.key w.val, s.n + 1⟩ := by
      unfold nextW putW; rw [if_pos h1, if_neg h2, hw]; rfl
    have hnd := List.pairwise_cons.1 hp.nd
    obtain ⟨a1, a2⟩ := puts_look l (nextW w s) ⟨fun x hx => hp.act x (List.mem_cons_of_mem _ hx), hnd.2⟩ (next_wf hs) (fun x hx => by
      rw [e1]
      show (s.t.put w.key w.val).look x.key = none
      rw [look_put _ _ _ _ h2, if_neg (Ne.symm (hnd.1 x hx))]
      exact hn x (List.mem_cons_of_mem _ hx))
    refine ⟨fun k => ?_, ?_⟩
    · rw [runS_cons, a1 k, e1, List.find?_cons]
      by_cases hk : w.key = k
      · subst hk
        rw [beq_self_eq_true]
        have : l.find? (fun x => x.key == w.key) = none := by
          rw [List.find?_eq_none]
          intro x hx
          simpa using Ne.symm (hnd.1 x hx)
        rw [this]
        show (s.t.put w.key w.val).look w.key = _
        rw [look_put _ _ _ _ h2, if_pos rfl]
      · rw [show (w.key == k) = false by simpa using hk]
        simp only
        cases l.find? (fun x => x.key == k) with
        | some x => rfl
        | none =>
          show (s.t.put w.key w.val).look k = _
          rw [look_put _ _ _ _ h2, if_neg (Ne.symm hk)]
    · rw [runS_cons, a2, e1, List.length_cons]
      simp only; omega
theorem find_perm {l m : List WordD} (h : List.Perm l m) (hl : Puts l) (k : Txt) : (l.find? (fun w => w.key == k)).map WordD.val = (m.find? (fun w => w.key == k)).map WordD.val := by
  have hm : Puts m := ⟨fun w hw => hl.act w (h.mem_iff.2 hw), (h.pairwise_iff (fun {a b} hab => Ne.symm hab)).1 hl.nd⟩
  have key : ∀ (l : List WordD), Puts l → ∀ w ∈ l, w.key = k → l.find? (fun w => w.key == k) = some w := by
    intro l
    induction l with
    | nil => intro _ w hw; cases hw
    | cons x l ih =>
      intro hp w hw hk
      have hnd := List.pairwise_cons.1 hp.nd
      rw [List.find?_cons]
      rcases List.mem_cons.1 hw with rfl | hw
      · rw [show (w.key == k) = true by simpa using hk]
      · have : ¬ x.key = k := fun e => hnd.1 w hw (e.trans hk.symm)
        rw [show (x.key == k) = false by simpa using this]
        exact ih ⟨fun y hy => hp.act y (List.mem_cons_of_mem _ hy), hnd.2⟩ w hw hk
  cases hf : l.find? (fun w => w.key == k) with
  | some w =>
    have h1 := List.mem_of_find?_eq_some hf
    have h2 : w.key = k := by simpa using List.find?_some hf
    rw [key m hm w (h.mem_iff.1 h1) h2]
  | none =>
    have : m.find? (fun w => w.key == k) = none := by
      rw [List.find?_eq_none] at hf ⊢
      exact fun w hw => hf w (h.mem_iff.2 hw)
    rw [this]
/-- whatever the order, the same is told. -/
structure SameT (s u : St) : Prop where
  ws : s.Wf
  wu : u.Wf
  look : ∀ k, s.t.look k = u.t.look k
  n : s.n = u.n
theorem SameT.tell {s u : St} (h : SameT s u) (w : WordD) : tellW w s = tellW w u := by
  have he := ent_ext h.ws h.wu h.look
  have hk : s.t.keys = u.t.keys := by unfold Tr.keys; rw [he]
  have hl := long_look (t := s.t) (u := u.t) w.key fun n => by rw [h.look]
  unfold tellW getW
  rw [h.look, hk, kwp_is _ h.ws, kwp_is _ h.wu, hk, hl, h.n]
theorem puts_same {l m : List WordD} (h : List.Perm l m) (hl : Puts l) : SameT (runS new0 l) (runS new0 m) := by
  have hm : Puts m := ⟨fun w hw => hl.act w (h.mem_iff.2 hw), (h.pairwise_iff (fun {a b} hab => Ne.symm hab)).1 hl.nd⟩
  have w0 : new0.Wf := trivial
  obtain ⟨a1, a2⟩ := puts_look l new0 hl w0 (fun _ _ => rfl)
  obtain ⟨b1, b2⟩ := puts_look m new0 hm w0 (fun _ _ => rfl)
  refine ⟨runS_wf l w0, runS_wf m w0, fun k => ?_, by rw [a2, b2, h.length_eq]⟩
  rw [a1, b1]
  have := find_perm h hl k
  cases h1 : l.find? (fun w => w.key == k) <;> cases h2 : m.find? (fun w => w.key == k) <;> rw [h1, h2] at this <;> simp_all
theorem up_nodup {l : List Txt} (h : Up l) : l.Nodup := List.Pairwise.imp (fun {a b} h e => by subst e; rw [less_irr] at h; cases h) h
theorem puts_keys {l : List WordD} (hl : Puts l) : (runS new0 l).t.keys.length = l.length := by
  have w0 : new0.Wf := trivial
  obtain ⟨a1, _⟩ := puts_look l new0 hl w0 (fun _ _ => rfl)
  have hw := runS_wf l w0
  have hp : List.Perm (runS new0 l).t.keys (l.map WordD.key) := by
    rw [List.perm_ext_iff_of_nodup (up_nodup (show Up (Tr.keys _) from keys_up _ hw)) (List.pairwise_map.2 hl.nd)]
    intro k
    unfold Tr.keys
    rw [List.mem_map, List.mem_map]
    constructor
    · rintro ⟨⟨k, v⟩, h, rfl⟩
      rw [mem_ent _ _ _ hw, a1] at h
      cases hf : l.find? (fun w => w.key == k) with
      | some w => exact ⟨w, List.mem_of_find?_eq_some hf, by simpa using List.find?_some hf⟩
      | none => rw [hf] at h; cases h
    · rintro ⟨w, h, rfl⟩
      cases hf : l.find? (fun x => x.key == w.key) with
      | some x => exact ⟨(w.key, x.val), (mem_ent _ _ _ hw).2 (by rw [a1, hf]), rfl⟩
      | none =>
        rw [List.find?_eq_none] at hf
        exact absurd (hf w h) (by simp)
  rw [hp.length_eq, List.length_map]
end Go.Proofs.Ytlpcddmcddenfaa.Tri
