/- impl.avlDo: a script on a tree. -/
import Derived.Test.YtjbelfbfhcmgeaaAvl6
import Derived.Deep.LoopGhost
namespace Go.Proofs.Ytjbelfbfhcmgeaa
open Go.RowKit

/-- the tree without its places. -/
def AT.er : AT → AT
  | .nil => .nil
  | .node _ k v h l r => .node 0 k v h l.er r.er
theorem er_ht : ∀ t : AT, t.er.ht = t.ht
  | .nil => rfl
  | .node .. => rfl
theorem er_htOf (l r : AT) : htOf l.er r.er = htOf l r := by unfold htOf; rw [er_ht, er_ht]
theorem er_rotL (t : AT) : (rotL t).er = rotL t.er := by
  cases t with
  | nil => rfl
  | node b k v h l r => cases r with
    | nil => rfl
    | node c k2 v2 h2 l2 r2 => simp only [rotL, mkN, AT.er, htOf, ht_node, er_ht]
theorem er_rotR (t : AT) : (rotR t).er = rotR t.er := by
  cases t with
  | nil => rfl
  | node b k v h l r => cases l with
    | nil => rfl
    | node c k2 v2 h2 l2 r2 => simp only [rotR, mkN, AT.er, htOf, ht_node, er_ht]
theorem er_fixR (t : AT) : (fixR t).er = fixR t.er := by
  cases t with
  | nil => rfl
  | node b k v h l r =>
    simp only [fixR, AT.er, er_ht]
    split
    · exact er_rotR _
    · rfl
theorem er_fixL (t : AT) : (fixL t).er = fixL t.er := by
  cases t with
  | nil => rfl
  | node b k v h l r =>
    simp only [fixL, AT.er, er_ht]
    split
    · exact er_rotL _
    · rfl
theorem er_reb (t : AT) : (reb t).er = reb t.er := by
  cases t with
  | nil => rfl
  | node b k v h l r =>
    simp only [reb, AT.er, er_ht]
    split
    · rw [er_rotL]; simp only [AT.er, er_fixR, er_htOf]
    · split
      · rw [er_rotR]; simp only [AT.er, er_fixL, er_htOf]
      · simp only [mkN, AT.er, er_htOf]
theorem er_add (xs : List Int) (k : Int) (v : Value) (nb : Nat) : ∀ t : AT, (t.add xs k v nb).er = t.er.add xs k v 0
  | .nil => rfl
  | .node b k2 v2 h l r => by
    simp only [AT.add, AT.er]
    split
    · rw [er_reb]; simp only [AT.er, er_add xs k v nb l]
    · split
      · rw [er_reb]; simp only [AT.er, er_add xs k v nb r]
      · rw [er_reb]; simp only [AT.er]
theorem er_least : ∀ t : AT, t.er.least.2 = t.least.2
  | .nil => rfl
  | .node _ _ _ _ .nil _ => rfl
  | .node _ _ _ _ (.node b k v h l r) _ => er_least (.node b k v h l r)
theorem er_remTop (b : Nat) (h : Int) (l r q : AT) : (remTop b h l r q).er = remTop 0 h l.er r.er q.er := by
  cases l with
  | nil => cases r with
    | nil => rfl
    | node b' k' v' h' l' r' => simp only [remTop, AT.er, er_reb]
  | node b' k' v' h' l' r' => cases r with
    | nil => simp only [remTop, AT.er, er_reb]
    | node b4 k4 v4 h4 l4 r4 =>
      have e := er_least (.node b4 k4 v4 h4 l4 r4)
      simp only [AT.er] at e
      simp only [remTop, AT.er, er_reb, e]
theorem er_rem (xs : List Int) : ∀ (t : AT) (k : Int), (t.rem xs k).er = t.er.rem xs k
  | .nil, _ => rfl
  | .node b k2 v2 h l r, k => by
    have e1 : r.er.least.2.1 = r.least.2.1 := by rw [er_least]
    rw [AT.rem.eq_def]
    show _ = AT.rem xs k (.node 0 k2 v2 h l.er r.er)
    rw [AT.rem.eq_def xs k (.node 0 k2 v2 h l.er r.er)]
    simp only
    split
    · rw [er_reb]; simp only [AT.er, er_rem xs l k]
    · split
      · rw [er_reb]; simp only [AT.er, er_rem xs r k]
      · rw [er_remTop, er_rem xs r, e1]
theorem er_find (xs : List Int) (k : Int) : ∀ t : AT, (t.find xs k).er = t.er.find xs k
  | .nil => rfl
  | .node b k2 v h l r => by
    simp only [AT.find, AT.er]
    split
    · exact er_find xs k l
    · split
      · exact er_find xs k r
      · rfl
theorem er_get (xs : List Int) (k : Int) (t : AT) : t.er.get xs k = t.get xs k := by
  unfold AT.get
  rw [← er_find]
  cases t.find xs k <;> rfl
theorem er_keys : ∀ t : AT, t.er.keys = t.keys
  | .nil => rfl
  | .node _ _ _ _ l r => by simp [AT.er, AT.keys, er_keys l, er_keys r]
theorem er_vals : ∀ t : AT, t.er.vals = t.vals
  | .nil => rfl
  | .node _ _ _ _ l r => by simp [AT.er, AT.vals, er_vals l, er_vals r]
/-- a step of a script, and what it tells. -/
structure ActD where
  act : Int
  key : Int
  val : Int
structure ToldD where
  val : Int
  ok : Bool
  keys : List Int
  vals : List Int
def ToldD.none : ToldD := ⟨0, false, [], []⟩
def stepA (xs : List Int) (a : ActD) (nb : Nat) (t : AT) : AT × ToldD :=
  if a.act = 0 then (t.add xs a.key (.int .i64 a.val) nb, .none)
  else if a.act = 1 then (t.rem xs a.key, .none)
  else if a.act = 2 then (t, ⟨(t.get xs a.key).1, (t.get xs a.key).2, [], []⟩)
  else if a.act = 3 then (t, ⟨t.keys.length, false, [], []⟩)
  else if a.act = 4 then (t, ⟨0, false, t.keys, t.vals⟩)
  else if a.act = 5 then (t, ⟨t.ht, false, [], []⟩)
  else (t, .none)
/-- the steps of a script, one behind the other, on a tree without places. -/
def runA (xs : List Int) : AT → List ActD → AT × List ToldD
  | t, [] => (t, [])
  | t, a :: l => let s := stepA xs a 0 t; let r := runA xs s.1 l; (r.1, s.2 :: r.2)
theorem er_step (xs : List Int) (a : ActD) (nb : Nat) (t : AT) : (stepA xs a nb t).1.er = (stepA xs a 0 t.er).1 ∧ (stepA xs a 0 t.er).2 = (stepA xs a nb t).2 := by
  unfold stepA
  repeat' split
  all_goals (try (simp_all; done))
  · exact ⟨er_add .., rfl⟩
  · exact ⟨er_rem .., rfl⟩
  · rw [er_get]; exact ⟨rfl, rfl⟩
  · rw [er_keys]; exact ⟨rfl, rfl⟩
  · rw [er_keys, er_vals]; exact ⟨rfl, rfl⟩
  · rw [er_ht]; exact ⟨rfl, rfl⟩
end Go.Proofs.Ytjbelfbfhcmgeaa
