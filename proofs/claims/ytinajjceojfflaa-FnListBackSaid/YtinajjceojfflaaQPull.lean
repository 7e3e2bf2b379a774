/- impl.pulled: what a function tells, or that it panics. -/
import Derived.Test.YtinajjceojfflaaQOps
namespace Go.Proofs.Ytinajjceojfflaa
open Go.RowKit

set_option maxRecDepth 100000 in
set_option maxHeartbeats 1600000 in
theorem catch_panicking (p q : Addr) (x : Int) (y : Bool) (u : TypeId) (pv : Value) (older : List PanicEntry) (w : World) (hc : w.cell? p = some (.int .i64 x)) (hz : w.frozen? p = false) (hd : (w.setCell p (.int .i64 0)).cell? q = some (.bool y)) (hy : (w.setCell p (.int .i64 0)).frozen? q = false) :
    CallsD Try.prog 79 #[.pointer (some p), .pointer (some q)] (.panicking ({ v := .iface u pv, recovered := false } :: older)) w fun e u' w' =>
      e = .returned (.tuple #[]) ∧ u' = .panicking ({ v := .iface u pv, recovered := true } :: older) ∧ w' = (w.setCell p (.int .i64 0)).setCell q (.bool false) := by
  refine callsD_of_wpS Try.func79 rfl fun c₀ cs hu => ?_
  apply wpS_seq
  apply wpS_region
  simp [wpOpsS, go_sem, recoverD, hu, Try.ntmps79, Exit.thenS]
  refine wpS_cond (t := true) (by simp [Act.eval, Array.replicate]) ?_
  simp only [if_true]
  apply wpS_region
  simp [wpOpsS, go_sem, hc, hz, hd, hy, bodyPostS, results, Try.results79]
theorem catch_idle (p q : Addr) (w : World) :
    CallsD Try.prog 79 #[.pointer (some p), .pointer (some q)] .returning w fun e u' w' => e = .returned (.tuple #[]) ∧ u' = .returning ∧ w' = w := by
  refine callsD_of_wpS Try.func79 rfl fun c₀ cs hu => ?_
  apply wpS_seq
  apply wpS_region
  simp [wpOpsS, go_sem, recoverD, hu, Try.ntmps79, Exit.thenS]
  refine wpS_cond (t := false) (by simp [Act.eval, Array.replicate]) ?_
  simp only [Bool.false_eq_true, if_false]
  refine wpS_of_wp (wp_skip ?_)
  cases c₀
  simp_all [bodyPostS, results, Try.results79]
theorem call_enter {P : Program} {f : FuncId} {fn : Func} {c : Code} (hf : P.funcs[f]? = some fn) (hname : (fn.name == "runtime.NumGoroutine") = false) (hb : fn.body = some c) (args : Array Value) (w : World) :
    Sem.run P (callFunc f args) w = .ok (.enter f args) w := by
  have h1 : fn.name ≠ "runtime.NumGoroutine" := by simpa using hname
  simp [callFunc, hf, h1, hb]
/-- the world behind pulled's own variables. -/
def pullW (w : World) : World := (w.alloc (.cells #[.int .i64 0] 3)).alloc (.cells #[.bool false] 4)
def Tells (w : World) (n : Int) (R : World → Prop) (e : Ending) (w' : World) : Prop := e = .returned (.tuple #[.int .i64 n, .bool true]) ∧ ∃ w2, R w2 ∧ w' = (w2.setCell ⟨w.heap.size, 0, none⟩ (.int .i64 n)).setCell ⟨w.heap.size + 1, 0, none⟩ (.bool true)
def TellsNot (w : World) (R : World → Prop) (e : Ending) (w' : World) : Prop := e = .returned (.tuple #[.int .i64 0, .bool false]) ∧ ∃ w2, R w2 ∧ w' = (w2.setCell ⟨w.heap.size, 0, none⟩ (.int .i64 0)).setCell ⟨w.heap.size + 1, 0, none⟩ (.bool false)
set_option maxRecDepth 100000 in
set_option maxHeartbeats 1600000 in
theorem pulled_some (F : FuncId) (hF : ∀ args w, Sem.run Try.prog (callFunc F args) w = .ok (.enter F args) w) (qp : Value) (n : Int) (w : World) (R : World → Prop)
    (hc : Calls Try.prog F #[qp] (pullW w) fun e w' => e = .returned (.int .i64 n) ∧ R w' ∧ Blk w' w.heap.size #[.int .i64 0] 3 ∧ Blk w' (w.heap.size + 1) #[.bool false] 4) :
    Calls Try.prog 37 #[.func (.func F) #[qp] #[]] w (Tells w n R) := by
  have hmf : ∀ (fn : Fn) (first cap : Array Value) (w : World), (Instr.makeFunc fn first cap).run Try.prog w = .ok (.func fn first cap) w := fun _ _ _ _ => rfl
  have HC := Lib.hid hc
  clear hc
  go_enter_defers Try.func37, Try.ntmps37
  go_wp2_with fail
  refine HC.out.mono ?_
  rintro e w1 ⟨rfl, hR, hb1, hb2⟩
  have c1 : w1.cell? ⟨w.heap.size, 0, none⟩ = some (.int .i64 0) := hb1.cell 0
  have f1 := hb1.frozen 0
  have c2 : w1.cell? ⟨w.heap.size + 1, 0, none⟩ = some (.bool false) := hb2.cell 0
  have f2 := hb2.frozen 0
  clear hb1 hb2
  go_wp2_with fail
  have hne : (⟨w.heap.size, 0, none⟩ : Addr) ≠ ⟨w.heap.size + 1, 0, none⟩ := by intro e; simp at e
  refine leaves_cons (f := 79) (args := #[.pointer (some ⟨w.heap.size, 0, none⟩), .pointer (some ⟨w.heap.size + 1, 0, none⟩)]) (by simp) (by simp [go_sem]) ?_
  refine (catch_idle ⟨w.heap.size, 0, none⟩ ⟨w.heap.size + 1, 0, none⟩ _).mono ?_
  rintro e u' w'' ⟨rfl, rfl, rfl⟩
  have d1 := World.cell?_setCell_same w1 _ (.int .i64 n) c1
  have d2 : ((w1.setCell ⟨w.heap.size, 0, none⟩ (.int .i64 n)).setCell ⟨w.heap.size + 1, 0, none⟩ (.bool true)).cell? ⟨w.heap.size + 1, 0, none⟩ = some (.bool true) :=
    World.cell?_setCell_same _ _ _ ((World.cell?_setCell_other _ _ _ _ hne).trans c2)
  simp [Go.Leaves, settle, results, Try.results37, go_sem, d1, d2, Tells]
  exact ⟨w1, hR, rfl⟩
set_option maxRecDepth 100000 in
set_option maxHeartbeats 1600000 in
theorem pulled_none (F : FuncId) (hF : ∀ args w, Sem.run Try.prog (callFunc F args) w = .ok (.enter F args) w) (qp : Value) (w : World) 
    (hc : Calls Try.prog F #[qp] (pullW w) fun e w' => (∃ u pv, e = .panicked [{ v := .iface u pv, recovered := false }]) ∧ w' = pullW w) :
    Calls Try.prog 37 #[.func (.func F) #[qp] #[]] w (TellsNot w (fun w' => w' = pullW w)) := by
  have hmf : ∀ (fn : Fn) (first cap : Array Value) (w : World), (Instr.makeFunc fn first cap).run Try.prog w = .ok (.func fn first cap) w := fun _ _ _ _ => rfl
  have HC := Lib.hid hc
  clear hc
  go_enter_defers Try.func37, Try.ntmps37
  go_wp2_with fail
  refine HC.out.mono ?_
  rintro e w1 ⟨⟨u, pv, rfl⟩, rfl⟩
  go_wp2_with fail
  refine leaves_cons (f := 79) (args := #[.pointer (some ⟨w.heap.size, 0, none⟩), .pointer (some ⟨w.heap.size + 1, 0, none⟩)]) (by simp) (by simp [go_sem]) ?_
  refine (catch_panicking ⟨w.heap.size, 0, none⟩ ⟨w.heap.size + 1, 0, none⟩ 0 false u pv [] _ ?_ ?_ ?_ ?_).mono ?_
  · unfold pullW; simp [go_sem]
  · unfold pullW; simp [go_sem]
  · unfold pullW; simp [go_sem]
  · unfold pullW; simp [go_sem]
  rintro e u' w'' ⟨rfl, rfl, rfl⟩
  unfold pullW
  simp [Go.Leaves, settle, results, Try.results37, go_sem, TellsNot]
end Go.Proofs.Ytinajjceojfflaa
