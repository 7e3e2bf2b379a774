/- scripts on tries in memory: what is told. -/
import Derived.Test.YtlpcddmcddenfaaTriV
namespace Go.Proofs.Ytlpcddmcddenfaa.Kp
open Go.RowKit Tri

def wordCell (w : WordD) : List Value := [.int .i64 w.act, str w.key, .int .i64 w.val]
theorem wordCell_len (w : WordD) : (wordCell w).length = 3 := rfl
/-- rows that tell, as they lie. -/
def TRW (w : World) : List SaysD → List Value → Prop
  | [], cs => cs = []
  | d :: ds, cs => ∃ kv rest, cs = .int .i64 d.val :: .bool d.ok :: str d.key :: kv :: rest ∧ NX 9 str w kv d.keys ∧ TRW w ds rest
theorem TRW.keep {w w' : World} (k : KeepT 9 w w') : ∀ {ds : List SaysD} {cs : List Value}, TRW w ds cs → TRW w' ds cs
  | [], _, h => h
  | _ :: _, _, ⟨kv, rest, e, h1, h2⟩ => ⟨kv, rest, e, h1.keep k, TRW.keep k h2⟩
theorem TRW.snoc {w : World} {d : SaysD} {kv : Value} (h1 : NX 9 str w kv d.keys) : ∀ {ds : List SaysD} {cs : List Value}, TRW w ds cs → TRW w (ds ++ [d]) (cs ++ [.int .i64 d.val, .bool d.ok, str d.key, kv])
  | [], _, h => by rw [show _ = [] from h]; exact ⟨kv, [], rfl, h1, rfl⟩
  | _ :: _, _, ⟨kv', rest, e, g1, g2⟩ => by rw [e]; exact ⟨kv', _, rfl, g1, TRW.snoc h1 g2⟩
theorem TRW.at_ {w : World} : ∀ {ds : List SaysD} {cs : List Value} {i : Nat} {d : SaysD}, TRW w ds cs → ds[i]? = some d → ∃ kv, cs[i * 4]? = some (.int .i64 d.val) ∧ cs[i * 4 + 1]? = some (.bool d.ok) ∧ cs[i * 4 + 2]? = some (str d.key) ∧ cs[i * 4 + 3]? = some kv ∧ NX 9 str w kv d.keys
  | [], _, i, d, _, h => by simp at h
  | _ :: _, _, 0, d, ⟨kv, rest, e, h1, _⟩, h => by
    simp at h; subst h; subst e
    exact ⟨kv, rfl, rfl, rfl, rfl, h1⟩
  | _ :: ds, _, i + 1, d, ⟨kv, rest, e, _, h2⟩, h => by
    obtain ⟨kv', g0, g1, g2, g3, g4⟩ := TRW.at_ h2 (show ds[i]? = some d by simpa using h)
    subst e
    have q : ∀ j, (i + 1) * 4 + j = i * 4 + j + 4 := by omega
    refine ⟨kv', ?_, ?_, ?_, ?_, g4⟩
    · rw [show (i + 1) * 4 = i * 4 + 4 by omega]; simpa using g0
    · rw [q]; simpa using g1
    · rw [q]; simpa using g2
    · rw [q]; simpa using g3
/-- what a script told: a row of one's own. -/
def Told (w : World) (B : Nat) (v : Value) (ds : List SaysD) : Prop := ∃ cs, w.ownsRow B 31 4 v ds.length cs ∧ TRW w ds cs
theorem infoSays : (Try.prog.info? 31).map (fun i => (i.zero, i.size, i.bytes)) = some (some (.agg #[.int .i64 0, .bool false, .string ⟨#[]⟩, .slice none 0 0]), 4, 56) := by kernel_rfl
/-- the rows told so far. -/
structure OW (B k : Nat) (ds : List SaysD) (cs : List Value) (v : Value) (w wr : World) : Prop where
  own : wr.ownsRow B 31 4 v k cs
  tr : TRW wr ds cs
  below : Below B w wr
theorem OW.start (w : World) (B : Nat) : OW B 0 [] [] (.slice none 0 0) w w := ⟨World.ownsRow_nil _ _ _ _, rfl, Below.refl _ _⟩
theorem keep_fr {T : TypeId} {w w' : World} {S : List Nat} (hf : Fr S w w') (hS : ∀ b ∈ S, ∃ cs T', Blk w b cs T' ∧ T' ≠ T) : KeepT T w w' := fun x cur hb => hb.fr hf (fun hx => by
  obtain ⟨cs, T', h1, h2⟩ := hS x hx
  unfold Blk at hb h1
  rw [hb] at h1
  simp at h1
  exact h2 h1.2.symm)
/-- blocks of other kinds, and what is new, may be written. -/
theorem OW.fr {B k : Nat} {ds : List SaysD} {cs : List Value} {v : Value} {w wr w2 : World} {S : List Nat} (h : OW B k ds cs v w wr) (hB : B ≤ wr.heap.size) (hf : Fr S wr w2) (hS : ∀ b ∈ S, B ≤ b ∧ v.ownBlock ≠ some b ∧ ∃ cs T', Blk wr b cs T' ∧ T' ≠ 9) : OW B k ds cs v w w2 :=
  ⟨own_at h.own fun i hi => by
    obtain ⟨cur, hb⟩ := own_blk h.own i hi
    exact hf.block i hb.lt (fun hx => (hS i hx).2.1 hi), h.tr.keep (keep_fr hf fun b hb => (hS b hb).2.2), h.below.trans (hf.below (fun b hb => (hS b hb).1) hB)⟩
theorem OW.bel {B k : Nat} {ds : List SaysD} {cs : List Value} {v : Value} {w wr w2 : World} (h : OW B k ds cs v w wr) (hB : B ≤ wr.heap.size) (hf : Below wr.heap.size wr w2) : OW B k ds cs v w w2 := h.fr (S := []) hB (Fr.of_below hf) (fun _ h => by cases h)
/-- in the midst of a round. -/
structure TM (B tb k : Nat) (ds : List SaysD) (cs : List Value) (v : Value) (w : World) (s : St) (t : TN) (a : WordD) (mb : Nat) (d : SaysD) (kv : Value) (W : World) : Prop where
  out : OW B k ds cs v w W
  tt : TT W B tb s t
  wd : Blk W mb #[.int .i64 a.act, str a.key, .int .i64 a.val] 28
  xb : Blk W (mb + 1) #[.int .i64 d.val, .bool d.ok, str d.key, kv] 31
  far : B ≤ mb ∧ v.ownBlock ≠ some (mb + 1)
  keys : NX 9 str W kv d.keys
section
variable {B tb k mb : Nat} {ds : List SaysD} {cs : List Value} {v : Value} {w W W' : World} {s s' : St} {t t' : TN} {a : WordD} {d d' : SaysD} {kv kv' : Value}
theorem own_ne {w : World} {B : Nat} {e : TypeId} {s n : Nat} {v : Value} {xs : List Value} (h : w.ownsRow B e s v n xs) {b : Nat} {cb : Array Value} {T : TypeId} (hb : Blk w b cb T) (hT : T ≠ e) : v.ownBlock ≠ some b := fun hx => by
  obtain ⟨cur, h1⟩ := own_blk h b hx
  unfold Blk at hb h1
  rw [hb] at h1
  simp at h1
  exact hT h1.2
theorem TM.start {wr : World} (h : OW B k ds cs v w wr) (hB : B ≤ wr.heap.size) (ht : TT wr B tb s t) (a : WordD) :
    TM B tb k ds cs v w s t a wr.heap.size says0 (.slice none 0 0) ((wr.alloc (.cells #[.int .i64 a.act, str a.key, .int .i64 a.val] 28)).alloc (.cells #[.int .i64 0, .bool false, .string ⟨#[]⟩, .slice none 0 0] 31)) := by
  have hb : Below wr.heap.size wr ((wr.alloc (.cells #[.int .i64 a.act, str a.key, .int .i64 a.val] 28)).alloc (.cells #[.int .i64 0, .bool false, .string ⟨#[]⟩, .slice none 0 0] 31)) := ((Below.refl _ wr).alloc (Nat.le_refl _) _).alloc (by simp) _
  have hx := Blk.new (wr.alloc (.cells #[.int .i64 a.act, str a.key, .int .i64 a.val] 28)) #[.int .i64 0, .bool false, .string ⟨#[]⟩, .slice none 0 0] 31
  rw [show (wr.alloc (.cells #[.int .i64 a.act, str a.key, .int .i64 a.val] 28)).heap.size = wr.heap.size + 1 by simp] at hx
  refine ⟨h.bel hB hb, ht.below hb, (Blk.new wr _ _).alloc _, hx, ⟨hB, fun e => ?_⟩, NX.nil _⟩
  obtain ⟨cur, hb⟩ := own_blk h.own _ e
  have := hb.lt
  omega
theorem TM.step (h : TM B tb k ds cs v w s t a mb d kv W) (hs : TS W B tb t s' t' W') : TM B tb k ds cs v w s' t' a mb d kv W' := by
  have ty : ∀ b ∈ tb :: t.ids, ∃ cs T, Blk W b cs T ∧ (T = 64 ∨ T = 72) := fun b hb => by
    rcases List.mem_cons.1 hb with rfl | hb
    · exact ⟨_, _, h.tt.blk, .inl rfl⟩
    · obtain ⟨cs, h1⟩ := h.tt.inn.type b hb
      exact ⟨cs, _, h1, .inr rfl⟩
  have ne : ∀ {b : Nat} {cb : Array Value} {T : TypeId}, Blk W b cb T → T ≠ 64 → T ≠ 72 → b ∉ tb :: t.ids := fun {b cb T} hb h1 h2 hm => by
    obtain ⟨cs, T', h3, h4⟩ := ty b hm
    unfold Blk at hb h3
    rw [hb] at h3
    simp at h3
    rcases h4 with h4 | h4
    · exact h1 (h3.2.trans h4)
    · exact h2 (h3.2.trans h4)
  have hBW : B ≤ W.heap.size := by have := h.tt.lo.1; have := h.tt.blk.lt; omega
  refine ⟨h.out.fr hBW hs.fr (fun b hb => ⟨?_, ?_, ?_⟩), hs.tt, h.wd.fr hs.fr (ne h.wd (by decide) (by decide)), h.xb.fr hs.fr (ne h.xb (by decide) (by decide)), h.far, h.keys.keep (keep_fr hs.fr fun b hb => ?_)⟩
  · rcases List.mem_cons.1 hb with rfl | hb
    · exact h.tt.lo.1
    · exact h.tt.lo.2 b hb
  · obtain ⟨cs, T', h3, h4⟩ := ty b hb
    exact own_ne h.out.own h3 (by rcases h4 with rfl | rfl <;> decide)
  · obtain ⟨cs, T', h3, h4⟩ := ty b hb
    exact ⟨cs, T', h3, by rcases h4 with rfl | rfl <;> decide⟩
  · obtain ⟨cs, T', h3, h4⟩ := ty b hb
    exact ⟨cs, T', h3, by rcases h4 with rfl | rfl <;> decide⟩
theorem TM.below (h : TM B tb k ds cs v w s t a mb d kv W) (hb : Below W.heap.size W W') : TM B tb k ds cs v w s t a mb d kv W' :=
  have hBW : B ≤ W.heap.size := by have := h.tt.lo.1; have := h.tt.blk.lt; omega
  ⟨h.out.bel hBW hb, h.tt.below hb, h.wd.below hb h.wd.lt, h.xb.below hb h.xb.lt, h.far, h.keys.below hb⟩
/-- x is told something. -/
theorem TM.setx (h : TM B tb k ds cs v w s t a mb d kv W) {W' : World} {cs' : Array Value} (hf : Fr [mb + 1] W W') (hb : Blk W' (mb + 1) cs' 31) (he : cs' = #[.int .i64 d'.val, .bool d'.ok, str d'.key, kv']) (hk : NX 9 str W kv' d'.keys) : TM B tb k ds cs v w s t a mb d' kv' W' := by
  have hBW : B ≤ W.heap.size := by have := h.tt.lo.1; have := h.tt.blk.lt; omega
  have ne : ∀ {b : Nat} {cb : Array Value} {T : TypeId}, Blk W b cb T → T ≠ 31 → b ∉ [mb + 1] := fun {b cb T} hb h1 hm => by
    rw [List.mem_singleton] at hm
    subst hm
    have := h.xb
    unfold Blk at hb this
    rw [this] at hb
    simp at hb
    exact h1 hb.2.symm
  refine ⟨h.out.fr hBW hf (fun b hb => ?_), h.tt.fr hf (ne h.tt.blk (by decide)) (fun x hx => ?_), h.wd.fr hf (ne h.wd (by decide)), he ▸ hb, h.far, hk.keep (keep_fr hf fun b hb => ?_)⟩
  · rw [List.mem_singleton] at hb
    subst hb
    exact ⟨by have := h.far.1; omega, h.far.2, _, _, h.xb, by decide⟩
  · obtain ⟨cs, h1⟩ := h.tt.inn.type x hx
    exact ne h1 (by decide)
  · rw [List.mem_singleton] at hb
    subst hb
    exact ⟨_, _, h.xb, by decide⟩
/-- what was told is put behind the rest. -/
theorem TM.next (h : TM B tb k ds cs v w s t a mb d kv W) {o : Obj} {v' : Value} (ho : W'.ownsRow B 31 4 v' (k + 1) (cs ++ [.int .i64 d.val, .bool d.ok, str d.key, kv])) (hg : (W.alloc o).grownBy W' v.ownBlock) : OW B (k + 1) (ds ++ [d]) (cs ++ [.int .i64 d.val, .bool d.ok, str d.key, kv]) v' w W' ∧ TT W' B tb s t := by
  have hBW : B ≤ W.heap.size := by have := h.tt.lo.1; have := h.tt.blk.lt; omega
  have hf : Fr (ob v) W W' := (Fr.alloc _ W o).comp (Fr.of_grown hg)
  have hK : KeepT 9 W W' := keep_fr hf fun b hb => by
    obtain ⟨cur, h1⟩ := own_blk h.out.own b (mem_ob.1 hb)
    exact ⟨cur, _, h1, by decide⟩
  refine ⟨⟨ho, TRW.snoc (h.keys.keep hK) (h.out.tr.keep hK), h.out.below.trans (hf.below (fun b hb => ?_) hBW)⟩, h.tt.fr hf (fun hm => own_ne h.out.own h.tt.blk (by decide) (mem_ob.1 hm)) (fun x hx hm => ?_)⟩
  · exact (h.out.own.lt b (mem_ob.1 hb)).1
  · obtain ⟨cs, h1⟩ := h.tt.inn.type x hx
    exact own_ne h.out.own h1 (by decide) (mem_ob.1 hm)
end
end Go.Proofs.Ytlpcddmcddenfaa.Kp
