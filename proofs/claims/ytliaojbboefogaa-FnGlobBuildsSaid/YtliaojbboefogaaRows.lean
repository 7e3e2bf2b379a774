/-
  NARROWER THAN 'FOR EVERY INPUT', by the rows' own cells (each row's printed sentence says how): FnGlobBraces: loops.
  DERIVED. THE GIVEN ROWS OF THIS SEAT. 2 by the template 'for every input the law returns true; each argument reads behind the call as it read before'; 0 by the template 'total and deterministic' (their statements: YtliaojbboefogaaTotals.lean).
  GIVEN WITH THE SEED: the statements are not yours to turn. If you find one false, say at which input.
  Laid BY PROGRAM, IN A SANDBOX (cutbox-rows.mjs): the forced cells as the released guide's own fill.sh prints them over the translation 0f45cd3a772dbcfe… (all of the seat's roots in one cut). By AI agents, Wed Nov 11 2026. No macro, syntax, notation, axiom, sorry.
-/
import Derived.Test.YtliaojbboefogaaChecked
import GoSem.Claim
import GoSem.ClaimJoined
import GoSem.ClaimMapViews
import Derived.JoinedTies
import Derived.KernelRfl
namespace Go.Proofs.Ytliaojbboefogaa
/- THE CELL 'sum', in the pinned program and in every row, IS THE sha256 OF THE DUMP (.gsa) THAT YtliaojbboefogaaProg.lean LOADS. Nothing in Lean hashes anything: it is a label: what it is worth is what the hold of that sum in a sandbox is worth. -/
noncomputable def Try.pinned : Pinned := { name := "ytliaojbboefogaa", sum := "0f45cd3a772dbcfef8299cb6f907a81f6ea1c4fefbb04ea3d8fc5bb2aacf7857", checked := Try.checked }
namespace Rows
def none {H : Type} : Left H := { results := [], args := [] }

/-- 'laws.FnGlobBuilds': WHATEVER THE INPUT: true; the input reads as it did. -/
def fnGlobBuildsSpec : ChangeSpec := { name := "fnGlobBuilds", fn := fun _ => fun
  | [d1, d2, d3] => { results := [.lit (.bool true)], args := [d1, d2, d3] }
  | _ => none }
def fnGlobBuildsRow : OpenClaim := { program := "ytliaojbboefogaa", sum := "0f45cd3a772dbcfef8299cb6f907a81f6ea1c4fefbb04ea3d8fc5bb2aacf7857", func := "pub-copsewood/laws.FnGlobBuilds", spec := "fnGlobBuilds", apart := false }
def FnGlobBuildsSaid : Prop := fnGlobBuildsRow.holds Try.pinned (OpenSpec.ofChange fnGlobBuildsSpec)

/-- ITS FALSE NEIGHBOUR: 'it returns false'. Refute it at one input. -/
def fnGlobBuildsWrong : ChangeSpec := { name := "fnGlobBuilds", fn := fun _ => fun
  | [d1, d2, d3] => { results := [.lit (.bool false)], args := [d1, d2, d3] }
  | _ => none }
def FnGlobBuildsWrongFalsely : Prop := fnGlobBuildsRow.holds Try.pinned (OpenSpec.ofChange fnGlobBuildsWrong)

/-- 'laws.FnGlobBraces': WHATEVER THE INPUT: true; the input reads as it did. -/
def fnGlobBracesSpec : ChangeSpec := { name := "fnGlobBraces", fn := fun _ => fun
  | [d1, d2] => { results := [.lit (.bool true)], args := [d1, d2] }
  | _ => none }
def fnGlobBracesRow : OpenClaim := { program := "ytliaojbboefogaa", sum := "0f45cd3a772dbcfef8299cb6f907a81f6ea1c4fefbb04ea3d8fc5bb2aacf7857", func := "pub-copsewood/laws.FnGlobBraces", spec := "fnGlobBraces", recurses := true, loops := true, apart := false }
def FnGlobBracesSaid : Prop := fnGlobBracesRow.holds Try.pinned (OpenSpec.ofChange fnGlobBracesSpec)

/-- ITS FALSE NEIGHBOUR: 'it returns false'. Refute it at one input. -/
def fnGlobBracesWrong : ChangeSpec := { name := "fnGlobBraces", fn := fun _ => fun
  | [d1, d2] => { results := [.lit (.bool false)], args := [d1, d2] }
  | _ => none }
def FnGlobBracesWrongFalsely : Prop := fnGlobBracesRow.holds Try.pinned (OpenSpec.ofChange fnGlobBracesWrong)

/- THE SECOND FORM. 'bulk': how many values and letters a reading holds, each counted each time it is reached (what is shared counts as often as it is met; a slice's spare places count too). A statement '..UptoSaid' is the law's where the arguments, and the package variables that the reading takes, are together of bulk at most 1048576: NARROWER than '..Said'. Prove '..Said' where nothing that the law and all that it calls make is longer than what came in: it says more and counts as full. Else prove '..UptoSaid'. A law counts once. -/
mutual
def uptoBulk {H : Type} : DataW H → Nat
  | .lit (.string bytes) => bytes.length + 1
  | .lit _ => 1
  | .nil => 1
  | .ptr d => uptoBulk d + 1
  | .slice elems spare => uptoBulkAll elems + uptoBulkAll spare + 1
  | .agg parts => uptoBulkAll parts + 1
  | .iface _ d => uptoBulk d + 1
  | .map entries => uptoBulkEntries entries + 1
  | .held _ => 1
def uptoBulkAll {H : Type} : List (DataW H) → Nat
  | [] => 0
  | d :: r => uptoBulk d + uptoBulkAll r
def uptoBulkEntries {H : Type} : List (Lit × DataW H) → Nat
  | [] => 0
  | x :: r => uptoBulkEntry x + uptoBulkEntries r
def uptoBulkEntry {H : Type} : Lit × DataW H → Nat
  | (.string bytes, d) => bytes.length + uptoBulk d + 1
  | (_, d) => uptoBulk d + 1
 end
def uptoSmall : (H : Type) → List (DataW H) → Bool := fun _ ds => decide (uptoBulkAll ds ≤ 1048576)
def OpenSpec.upto (s : _root_.Go.ChangeSpec) : _root_.Go.OpenSpec := { _root_.Go.OpenSpec.ofChange s with cond := some uptoSmall }

/-- 'laws.FnGlobBuilds', WHERE WHAT IT READS IS OF BULK AT MOST 1048576: true; the input reads as it did. -/
def fnGlobBuildsUptoRow : OpenClaim := { program := "ytliaojbboefogaa", sum := "0f45cd3a772dbcfef8299cb6f907a81f6ea1c4fefbb04ea3d8fc5bb2aacf7857", func := "pub-copsewood/laws.FnGlobBuilds", spec := "fnGlobBuilds", apart := false, narrowed := true }
def FnGlobBuildsUptoSaid : Prop := fnGlobBuildsUptoRow.holds Try.pinned (OpenSpec.upto fnGlobBuildsSpec)

/-- 'laws.FnGlobBraces', WHERE WHAT IT READS IS OF BULK AT MOST 1048576: true; the input reads as it did. -/
def fnGlobBracesUptoRow : OpenClaim := { program := "ytliaojbboefogaa", sum := "0f45cd3a772dbcfef8299cb6f907a81f6ea1c4fefbb04ea3d8fc5bb2aacf7857", func := "pub-copsewood/laws.FnGlobBraces", spec := "fnGlobBraces", recurses := true, loops := true, apart := false, narrowed := true }
def FnGlobBracesUptoSaid : Prop := fnGlobBracesUptoRow.holds Try.pinned (OpenSpec.upto fnGlobBracesSpec)

end Rows
end Go.Proofs.Ytliaojbboefogaa
