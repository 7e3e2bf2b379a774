/-
  No cell of these rows narrows 'for every input' (looked for: loops, veiled, ifaces, maps, wideKeys, modest, calm, conditions, laid).
  DERIVED. THE GIVEN ROWS OF THIS SEAT. 5 by the template 'for every input the law returns true; each argument reads behind the call as it read before'; 0 by the template 'total and deterministic' (their statements: YtjbelfbfhcmgeaaTotals.lean).
  GIVEN WITH THE SEED: the statements are not yours to turn. If you find one false, say at which input.
  Laid BY PROGRAM, IN A SANDBOX (cutbox-rows.mjs): the forced cells as the released guide's own fill.sh prints them over the translation d4436894de33ba78… (all of the seat's roots in one cut). By AI agents, Wed Nov 11 2026. No macro, syntax, notation, axiom, sorry.
-/
import Derived.Test.YtjbelfbfhcmgeaaChecked
import GoSem.Claim
import GoSem.ClaimJoined
import GoSem.ClaimMapViews
import Derived.JoinedTies
import Derived.KernelRfl
namespace Go.Proofs.Ytjbelfbfhcmgeaa
/- THE CELL 'sum', in the pinned program and in every row, IS THE sha256 OF THE DUMP (.gsa) THAT YtjbelfbfhcmgeaaProg.lean LOADS. Nothing in Lean hashes anything: it is a label: what it is worth is what the hold of that sum in a sandbox is worth. -/
noncomputable def Try.pinned : Pinned := { name := "ytjbelfbfhcmgeaa", sum := "d4436894de33ba788de60a4836d21bd36d534efababc927a2f854c53dbdca76e", checked := Try.checked }
namespace Rows
def none {H : Type} : Left H := { results := [], args := [] }

/-- 'laws.FnBtreeRuns': WHATEVER THE INPUT: true; the input reads as it did. -/
def fnBtreeRunsSpec : ChangeSpec := { name := "fnBtreeRuns", fn := fun _ => fun
  | [d1, d2] => { results := [.lit (.bool true)], args := [d1, d2] }
  | _ => none }
def fnBtreeRunsRow : OpenClaim := { program := "ytjbelfbfhcmgeaa", sum := "d4436894de33ba788de60a4836d21bd36d534efababc927a2f854c53dbdca76e", func := "pub-copsewood/laws.FnBtreeRuns", spec := "fnBtreeRuns", unfollowed := true, recurses := true, apart := false }
def FnBtreeRunsSaid : Prop := fnBtreeRunsRow.holds Try.pinned (OpenSpec.ofChange fnBtreeRunsSpec)

/-- ITS FALSE NEIGHBOUR: 'it returns false'. Refute it at one input. -/
def fnBtreeRunsWrong : ChangeSpec := { name := "fnBtreeRuns", fn := fun _ => fun
  | [d1, d2] => { results := [.lit (.bool false)], args := [d1, d2] }
  | _ => none }
def FnBtreeRunsWrongFalsely : Prop := fnBtreeRunsRow.holds Try.pinned (OpenSpec.ofChange fnBtreeRunsWrong)

/-- 'laws.FnBtreeShapes': WHATEVER THE INPUT: true; the input reads as it did. -/
def fnBtreeShapesSpec : ChangeSpec := { name := "fnBtreeShapes", fn := fun _ => fun
  | [d1, d2] => { results := [.lit (.bool true)], args := [d1, d2] }
  | _ => none }
def fnBtreeShapesRow : OpenClaim := { program := "ytjbelfbfhcmgeaa", sum := "d4436894de33ba788de60a4836d21bd36d534efababc927a2f854c53dbdca76e", func := "pub-copsewood/laws.FnBtreeShapes", spec := "fnBtreeShapes", unfollowed := true, recurses := true, apart := false }
def FnBtreeShapesSaid : Prop := fnBtreeShapesRow.holds Try.pinned (OpenSpec.ofChange fnBtreeShapesSpec)

/-- ITS FALSE NEIGHBOUR: 'it returns false'. Refute it at one input. -/
def fnBtreeShapesWrong : ChangeSpec := { name := "fnBtreeShapes", fn := fun _ => fun
  | [d1, d2] => { results := [.lit (.bool false)], args := [d1, d2] }
  | _ => none }
def FnBtreeShapesWrongFalsely : Prop := fnBtreeShapesRow.holds Try.pinned (OpenSpec.ofChange fnBtreeShapesWrong)

/-- 'laws.FnTreesDense': WHATEVER THE INPUT: true; the input reads as it did. -/
def fnTreesDenseSpec : ChangeSpec := { name := "fnTreesDense", fn := fun _ => fun
  | [d1, d2] => { results := [.lit (.bool true)], args := [d1, d2] }
  | _ => none }
def fnTreesDenseRow : OpenClaim := { program := "ytjbelfbfhcmgeaa", sum := "d4436894de33ba788de60a4836d21bd36d534efababc927a2f854c53dbdca76e", func := "pub-copsewood/laws.FnTreesDense", spec := "fnTreesDense", unfollowed := true, recurses := true, apart := false }
def FnTreesDenseSaid : Prop := fnTreesDenseRow.holds Try.pinned (OpenSpec.ofChange fnTreesDenseSpec)

/-- ITS FALSE NEIGHBOUR: 'it returns false'. Refute it at one input. -/
def fnTreesDenseWrong : ChangeSpec := { name := "fnTreesDense", fn := fun _ => fun
  | [d1, d2] => { results := [.lit (.bool false)], args := [d1, d2] }
  | _ => none }
def FnTreesDenseWrongFalsely : Prop := fnTreesDenseRow.holds Try.pinned (OpenSpec.ofChange fnTreesDenseWrong)

/-- 'laws.FnTreesOrder': WHATEVER THE INPUT: true; the input reads as it did. -/
def fnTreesOrderSpec : ChangeSpec := { name := "fnTreesOrder", fn := fun _ => fun
  | [d1, d2, d3] => { results := [.lit (.bool true)], args := [d1, d2, d3] }
  | _ => none }
def fnTreesOrderRow : OpenClaim := { program := "ytjbelfbfhcmgeaa", sum := "d4436894de33ba788de60a4836d21bd36d534efababc927a2f854c53dbdca76e", func := "pub-copsewood/laws.FnTreesOrder", spec := "fnTreesOrder", unfollowed := true, recurses := true, apart := false }
def FnTreesOrderSaid : Prop := fnTreesOrderRow.holds Try.pinned (OpenSpec.ofChange fnTreesOrderSpec)

/-- ITS FALSE NEIGHBOUR: 'it returns false'. Refute it at one input. -/
def fnTreesOrderWrong : ChangeSpec := { name := "fnTreesOrder", fn := fun _ => fun
  | [d1, d2, d3] => { results := [.lit (.bool false)], args := [d1, d2, d3] }
  | _ => none }
def FnTreesOrderWrongFalsely : Prop := fnTreesOrderRow.holds Try.pinned (OpenSpec.ofChange fnTreesOrderWrong)

/-- 'laws.FnTreesRise': WHATEVER THE INPUT: true; the input reads as it did. -/
def fnTreesRiseSpec : ChangeSpec := { name := "fnTreesRise", fn := fun _ => fun
  | [d1, d2] => { results := [.lit (.bool true)], args := [d1, d2] }
  | _ => none }
def fnTreesRiseRow : OpenClaim := { program := "ytjbelfbfhcmgeaa", sum := "d4436894de33ba788de60a4836d21bd36d534efababc927a2f854c53dbdca76e", func := "pub-copsewood/laws.FnTreesRise", spec := "fnTreesRise", unfollowed := true, recurses := true, apart := false }
def FnTreesRiseSaid : Prop := fnTreesRiseRow.holds Try.pinned (OpenSpec.ofChange fnTreesRiseSpec)

/-- ITS FALSE NEIGHBOUR: 'it returns false'. Refute it at one input. -/
def fnTreesRiseWrong : ChangeSpec := { name := "fnTreesRise", fn := fun _ => fun
  | [d1, d2] => { results := [.lit (.bool false)], args := [d1, d2] }
  | _ => none }
def FnTreesRiseWrongFalsely : Prop := fnTreesRiseRow.holds Try.pinned (OpenSpec.ofChange fnTreesRiseWrong)

/- THE SECOND FORM. 'bulk': how many values and letters a reading holds, each counted each time it is reached (what is shared counts as often as it is met; a slice's spare places count too). A statement '..UptoSaid' is the law's where the arguments, and the package variables that the reading takes, are together of bulk at most 1048576: NARROWER than '..Said'. Prove '..Said' where nothing that the law and all that it calls make is longer than what came in: it says more and counts as full. Else prove '..UptoSaid'. A law counts once. -/
mutual
def uptoBulk {H : Type} : DataW H → Nat
  | .lit (.string bytes) => bytes.length + 1
  | .lit _ => 1
  | .nil => 1
  | .ptr d => uptoBulk d + 1
  | .slice elems spare => uptoBulkAll elems + uptoBulkAll spare + 1
  | .agg parts => uptoBulkAll parts + 1
  | .iface _ d => uptoBulk d + 1
  | .map entries => uptoBulkEntries entries + 1
  | .held _ => 1
def uptoBulkAll {H : Type} : List (DataW H) → Nat
  | [] => 0
  | d :: r => uptoBulk d + uptoBulkAll r
def uptoBulkEntries {H : Type} : List (Lit × DataW H) → Nat
  | [] => 0
  | x :: r => uptoBulkEntry x + uptoBulkEntries r
def uptoBulkEntry {H : Type} : Lit × DataW H → Nat
  | (.string bytes, d) => bytes.length + uptoBulk d + 1
  | (_, d) => uptoBulk d + 1
 end
def uptoSmall : (H : Type) → List (DataW H) → Bool := fun _ ds => decide (uptoBulkAll ds ≤ 1048576)
def OpenSpec.upto (s : _root_.Go.ChangeSpec) : _root_.Go.OpenSpec := { _root_.Go.OpenSpec.ofChange s with cond := some uptoSmall }

/-- 'laws.FnBtreeRuns', WHERE WHAT IT READS IS OF BULK AT MOST 1048576: true; the input reads as it did. -/
def fnBtreeRunsUptoRow : OpenClaim := { program := "ytjbelfbfhcmgeaa", sum := "d4436894de33ba788de60a4836d21bd36d534efababc927a2f854c53dbdca76e", func := "pub-copsewood/laws.FnBtreeRuns", spec := "fnBtreeRuns", unfollowed := true, recurses := true, apart := false, narrowed := true }
def FnBtreeRunsUptoSaid : Prop := fnBtreeRunsUptoRow.holds Try.pinned (OpenSpec.upto fnBtreeRunsSpec)

/-- 'laws.FnBtreeShapes', WHERE WHAT IT READS IS OF BULK AT MOST 1048576: true; the input reads as it did. -/
def fnBtreeShapesUptoRow : OpenClaim := { program := "ytjbelfbfhcmgeaa", sum := "d4436894de33ba788de60a4836d21bd36d534efababc927a2f854c53dbdca76e", func := "pub-copsewood/laws.FnBtreeShapes", spec := "fnBtreeShapes", unfollowed := true, recurses := true, apart := false, narrowed := true }
def FnBtreeShapesUptoSaid : Prop := fnBtreeShapesUptoRow.holds Try.pinned (OpenSpec.upto fnBtreeShapesSpec)

/-- 'laws.FnTreesDense', WHERE WHAT IT READS IS OF BULK AT MOST 1048576: true; the input reads as it did. -/
def fnTreesDenseUptoRow : OpenClaim := { program := "ytjbelfbfhcmgeaa", sum := "d4436894de33ba788de60a4836d21bd36d534efababc927a2f854c53dbdca76e", func := "pub-copsewood/laws.FnTreesDense", spec := "fnTreesDense", unfollowed := true, recurses := true, apart := false, narrowed := true }
def FnTreesDenseUptoSaid : Prop := fnTreesDenseUptoRow.holds Try.pinned (OpenSpec.upto fnTreesDenseSpec)

/-- 'laws.FnTreesOrder', WHERE WHAT IT READS IS OF BULK AT MOST 1048576: true; the input reads as it did. -/
def fnTreesOrderUptoRow : OpenClaim := { program := "ytjbelfbfhcmgeaa", sum := "d4436894de33ba788de60a4836d21bd36d534efababc927a2f854c53dbdca76e", func := "pub-copsewood/laws.FnTreesOrder", spec := "fnTreesOrder", unfollowed := true, recurses := true, apart := false, narrowed := true }
def FnTreesOrderUptoSaid : Prop := fnTreesOrderUptoRow.holds Try.pinned (OpenSpec.upto fnTreesOrderSpec)

/-- 'laws.FnTreesRise', WHERE WHAT IT READS IS OF BULK AT MOST 1048576: true; the input reads as it did. -/
def fnTreesRiseUptoRow : OpenClaim := { program := "ytjbelfbfhcmgeaa", sum := "d4436894de33ba788de60a4836d21bd36d534efababc927a2f854c53dbdca76e", func := "pub-copsewood/laws.FnTreesRise", spec := "fnTreesRise", unfollowed := true, recurses := true, apart := false, narrowed := true }
def FnTreesRiseUptoSaid : Prop := fnTreesRiseUptoRow.holds Try.pinned (OpenSpec.upto fnTreesRiseSpec)

end Rows
end Go.Proofs.Ytjbelfbfhcmgeaa
