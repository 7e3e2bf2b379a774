/-
  No cell of these rows narrows 'for every input' (looked for: loops, veiled, ifaces, maps, wideKeys, modest, calm, conditions, laid).
  DERIVED. THE GIVEN ROWS OF THIS SEAT. 7 by the template 'for every input the law returns true; each argument reads behind the call as it read before'; 0 by the template 'total and deterministic' (their statements: YtinajjceojfflaaTotals.lean).
  GIVEN WITH THE SEED: the statements are not yours to turn. If you find one false, say at which input.
  Laid BY PROGRAM, IN A SANDBOX (cutbox-rows.mjs): the forced cells as the released guide's own fill.sh prints them over the translation 1d87c79f27d87e2f… (all of the seat's roots in one cut). By AI agents, Wed Nov 11 2026. No macro, syntax, notation, axiom, sorry.
-/
import Derived.Test.YtinajjceojfflaaChecked
import GoSem.Claim
import GoSem.ClaimJoined
import GoSem.ClaimMapViews
import Derived.JoinedTies
import Derived.KernelRfl
namespace Go.Proofs.Ytinajjceojfflaa
/- THE CELL 'sum', in the pinned program and in every row, IS THE sha256 OF THE DUMP (.gsa) THAT YtinajjceojfflaaProg.lean LOADS. Nothing in Lean hashes anything: it is a label: what it is worth is what the hold of that sum in a sandbox is worth. -/
noncomputable def Try.pinned : Pinned := { name := "ytinajjceojfflaa", sum := "1d87c79f27d87e2fad551d55c22131ce1eb0ce9b70b5ef2469d10915873b4f2a", checked := Try.checked }
namespace Rows
def none {H : Type} : Left H := { results := [], args := [] }

/-- 'laws.FnHeapRuns': WHATEVER THE INPUT: true; the input reads as it did. -/
def fnHeapRunsSpec : ChangeSpec := { name := "fnHeapRuns", fn := fun _ => fun
  | [d1, d2, d3, d4] => { results := [.lit (.bool true)], args := [d1, d2, d3, d4] }
  | _ => none }
def fnHeapRunsRow : OpenClaim := { program := "ytinajjceojfflaa", sum := "1d87c79f27d87e2fad551d55c22131ce1eb0ce9b70b5ef2469d10915873b4f2a", func := "pub-copsewood/laws.FnHeapRuns", spec := "fnHeapRuns", unfollowed := true, recurses := true, apart := false }
def FnHeapRunsSaid : Prop := fnHeapRunsRow.holds Try.pinned (OpenSpec.ofChange fnHeapRunsSpec)

/-- ITS FALSE NEIGHBOUR: 'it returns false'. Refute it at one input. -/
def fnHeapRunsWrong : ChangeSpec := { name := "fnHeapRuns", fn := fun _ => fun
  | [d1, d2, d3, d4] => { results := [.lit (.bool false)], args := [d1, d2, d3, d4] }
  | _ => none }
def FnHeapRunsWrongFalsely : Prop := fnHeapRunsRow.holds Try.pinned (OpenSpec.ofChange fnHeapRunsWrong)

/-- 'laws.FnHeapWays': WHATEVER THE INPUT: true; the input reads as it did. -/
def fnHeapWaysSpec : ChangeSpec := { name := "fnHeapWays", fn := fun _ => fun
  | [d1, d2, d3] => { results := [.lit (.bool true)], args := [d1, d2, d3] }
  | _ => none }
def fnHeapWaysRow : OpenClaim := { program := "ytinajjceojfflaa", sum := "1d87c79f27d87e2fad551d55c22131ce1eb0ce9b70b5ef2469d10915873b4f2a", func := "pub-copsewood/laws.FnHeapWays", spec := "fnHeapWays", unfollowed := true, recurses := true, apart := false }
def FnHeapWaysSaid : Prop := fnHeapWaysRow.holds Try.pinned (OpenSpec.ofChange fnHeapWaysSpec)

/-- ITS FALSE NEIGHBOUR: 'it returns false'. Refute it at one input. -/
def fnHeapWaysWrong : ChangeSpec := { name := "fnHeapWays", fn := fun _ => fun
  | [d1, d2, d3] => { results := [.lit (.bool false)], args := [d1, d2, d3] }
  | _ => none }
def FnHeapWaysWrongFalsely : Prop := fnHeapWaysRow.holds Try.pinned (OpenSpec.ofChange fnHeapWaysWrong)

/-- 'laws.FnHeapDown': WHATEVER THE INPUT: true; the input reads as it did. -/
def fnHeapDownSpec : ChangeSpec := { name := "fnHeapDown", fn := fun _ => fun
  | [d1, d2, d3, d4] => { results := [.lit (.bool true)], args := [d1, d2, d3, d4] }
  | _ => none }
def fnHeapDownRow : OpenClaim := { program := "ytinajjceojfflaa", sum := "1d87c79f27d87e2fad551d55c22131ce1eb0ce9b70b5ef2469d10915873b4f2a", func := "pub-copsewood/laws.FnHeapDown", spec := "fnHeapDown", unfollowed := true, recurses := true, apart := false }
def FnHeapDownSaid : Prop := fnHeapDownRow.holds Try.pinned (OpenSpec.ofChange fnHeapDownSpec)

/-- ITS FALSE NEIGHBOUR: 'it returns false'. Refute it at one input. -/
def fnHeapDownWrong : ChangeSpec := { name := "fnHeapDown", fn := fun _ => fun
  | [d1, d2, d3, d4] => { results := [.lit (.bool false)], args := [d1, d2, d3, d4] }
  | _ => none }
def FnHeapDownWrongFalsely : Prop := fnHeapDownRow.holds Try.pinned (OpenSpec.ofChange fnHeapDownWrong)

/-- 'laws.FnQueueRuns': WHATEVER THE INPUT: true; the input reads as it did. -/
def fnQueueRunsSpec : ChangeSpec := { name := "fnQueueRuns", fn := fun _ => fun
  | [d] => { results := [.lit (.bool true)], args := [d] }
  | _ => none }
def fnQueueRunsRow : OpenClaim := { program := "ytinajjceojfflaa", sum := "1d87c79f27d87e2fad551d55c22131ce1eb0ce9b70b5ef2469d10915873b4f2a", func := "pub-copsewood/laws.FnQueueRuns", spec := "fnQueueRuns", unfollowed := true, recurses := true, apart := false }
def FnQueueRunsSaid : Prop := fnQueueRunsRow.holds Try.pinned (OpenSpec.ofChange fnQueueRunsSpec)

/-- ITS FALSE NEIGHBOUR: 'it returns false'. Refute it at one input. -/
def fnQueueRunsWrong : ChangeSpec := { name := "fnQueueRuns", fn := fun _ => fun
  | [d] => { results := [.lit (.bool false)], args := [d] }
  | _ => none }
def FnQueueRunsWrongFalsely : Prop := fnQueueRunsRow.holds Try.pinned (OpenSpec.ofChange fnQueueRunsWrong)

/-- 'laws.FnListBack': WHATEVER THE INPUT: true; the input reads as it did. -/
def fnListBackSpec : ChangeSpec := { name := "fnListBack", fn := fun _ => fun
  | [d] => { results := [.lit (.bool true)], args := [d] }
  | _ => none }
def fnListBackRow : OpenClaim := { program := "ytinajjceojfflaa", sum := "1d87c79f27d87e2fad551d55c22131ce1eb0ce9b70b5ef2469d10915873b4f2a", func := "pub-copsewood/laws.FnListBack", spec := "fnListBack", unfollowed := true, recurses := true, apart := false }
def FnListBackSaid : Prop := fnListBackRow.holds Try.pinned (OpenSpec.ofChange fnListBackSpec)

/-- ITS FALSE NEIGHBOUR: 'it returns false'. Refute it at one input. -/
def fnListBackWrong : ChangeSpec := { name := "fnListBack", fn := fun _ => fun
  | [d] => { results := [.lit (.bool false)], args := [d] }
  | _ => none }
def FnListBackWrongFalsely : Prop := fnListBackRow.holds Try.pinned (OpenSpec.ofChange fnListBackWrong)

/-- 'laws.FnQueueStack': WHATEVER THE INPUT: true; the input reads as it did. -/
def fnQueueStackSpec : ChangeSpec := { name := "fnQueueStack", fn := fun _ => fun
  | [d] => { results := [.lit (.bool true)], args := [d] }
  | _ => none }
def fnQueueStackRow : OpenClaim := { program := "ytinajjceojfflaa", sum := "1d87c79f27d87e2fad551d55c22131ce1eb0ce9b70b5ef2469d10915873b4f2a", func := "pub-copsewood/laws.FnQueueStack", spec := "fnQueueStack", unfollowed := true, recurses := true, apart := false }
def FnQueueStackSaid : Prop := fnQueueStackRow.holds Try.pinned (OpenSpec.ofChange fnQueueStackSpec)

/-- ITS FALSE NEIGHBOUR: 'it returns false'. Refute it at one input. -/
def fnQueueStackWrong : ChangeSpec := { name := "fnQueueStack", fn := fun _ => fun
  | [d] => { results := [.lit (.bool false)], args := [d] }
  | _ => none }
def FnQueueStackWrongFalsely : Prop := fnQueueStackRow.holds Try.pinned (OpenSpec.ofChange fnQueueStackWrong)

/-- 'laws.FnCacheEvicts': WHATEVER THE INPUT: true; the input reads as it did. -/
def fnCacheEvictsSpec : ChangeSpec := { name := "fnCacheEvicts", fn := fun _ => fun
  | [d1, d2] => { results := [.lit (.bool true)], args := [d1, d2] }
  | _ => none }
def fnCacheEvictsRow : OpenClaim := { program := "ytinajjceojfflaa", sum := "1d87c79f27d87e2fad551d55c22131ce1eb0ce9b70b5ef2469d10915873b4f2a", func := "pub-copsewood/laws.FnCacheEvicts", spec := "fnCacheEvicts", unfollowed := true, recurses := true, apart := false }
def FnCacheEvictsSaid : Prop := fnCacheEvictsRow.holds Try.pinned (OpenSpec.ofChange fnCacheEvictsSpec)

/-- ITS FALSE NEIGHBOUR: 'it returns false'. Refute it at one input. -/
def fnCacheEvictsWrong : ChangeSpec := { name := "fnCacheEvicts", fn := fun _ => fun
  | [d1, d2] => { results := [.lit (.bool false)], args := [d1, d2] }
  | _ => none }
def FnCacheEvictsWrongFalsely : Prop := fnCacheEvictsRow.holds Try.pinned (OpenSpec.ofChange fnCacheEvictsWrong)

/- THE SECOND FORM. 'bulk': how many values and letters a reading holds, each counted each time it is reached (what is shared counts as often as it is met; a slice's spare places count too). A statement '..UptoSaid' is the law's where the arguments, and the package variables that the reading takes, are together of bulk at most 1048576: NARROWER than '..Said'. Prove '..Said' where nothing that the law and all that it calls make is longer than what came in: it says more and counts as full. Else prove '..UptoSaid'. A law counts once. -/
mutual
def uptoBulk {H : Type} : DataW H → Nat
  | .lit (.string bytes) => bytes.length + 1
  | .lit _ => 1
  | .nil => 1
  | .ptr d => uptoBulk d + 1
  | .slice elems spare => uptoBulkAll elems + uptoBulkAll spare + 1
  | .agg parts => uptoBulkAll parts + 1
  | .iface _ d => uptoBulk d + 1
  | .map entries => uptoBulkEntries entries + 1
  | .held _ => 1
def uptoBulkAll {H : Type} : List (DataW H) → Nat
  | [] => 0
  | d :: r => uptoBulk d + uptoBulkAll r
def uptoBulkEntries {H : Type} : List (Lit × DataW H) → Nat
  | [] => 0
  | x :: r => uptoBulkEntry x + uptoBulkEntries r
def uptoBulkEntry {H : Type} : Lit × DataW H → Nat
  | (.string bytes, d) => bytes.length + uptoBulk d + 1
  | (_, d) => uptoBulk d + 1
 end
def uptoSmall : (H : Type) → List (DataW H) → Bool := fun _ ds => decide (uptoBulkAll ds ≤ 1048576)
def OpenSpec.upto (s : _root_.Go.ChangeSpec) : _root_.Go.OpenSpec := { _root_.Go.OpenSpec.ofChange s with cond := some uptoSmall }

/-- 'laws.FnHeapRuns', WHERE WHAT IT READS IS OF BULK AT MOST 1048576: true; the input reads as it did. -/
def fnHeapRunsUptoRow : OpenClaim := { program := "ytinajjceojfflaa", sum := "1d87c79f27d87e2fad551d55c22131ce1eb0ce9b70b5ef2469d10915873b4f2a", func := "pub-copsewood/laws.FnHeapRuns", spec := "fnHeapRuns", unfollowed := true, recurses := true, apart := false, narrowed := true }
def FnHeapRunsUptoSaid : Prop := fnHeapRunsUptoRow.holds Try.pinned (OpenSpec.upto fnHeapRunsSpec)

/-- 'laws.FnHeapWays', WHERE WHAT IT READS IS OF BULK AT MOST 1048576: true; the input reads as it did. -/
def fnHeapWaysUptoRow : OpenClaim := { program := "ytinajjceojfflaa", sum := "1d87c79f27d87e2fad551d55c22131ce1eb0ce9b70b5ef2469d10915873b4f2a", func := "pub-copsewood/laws.FnHeapWays", spec := "fnHeapWays", unfollowed := true, recurses := true, apart := false, narrowed := true }
def FnHeapWaysUptoSaid : Prop := fnHeapWaysUptoRow.holds Try.pinned (OpenSpec.upto fnHeapWaysSpec)

/-- 'laws.FnHeapDown', WHERE WHAT IT READS IS OF BULK AT MOST 1048576: true; the input reads as it did. -/
def fnHeapDownUptoRow : OpenClaim := { program := "ytinajjceojfflaa", sum := "1d87c79f27d87e2fad551d55c22131ce1eb0ce9b70b5ef2469d10915873b4f2a", func := "pub-copsewood/laws.FnHeapDown", spec := "fnHeapDown", unfollowed := true, recurses := true, apart := false, narrowed := true }
def FnHeapDownUptoSaid : Prop := fnHeapDownUptoRow.holds Try.pinned (OpenSpec.upto fnHeapDownSpec)

/-- 'laws.FnQueueRuns', WHERE WHAT IT READS IS OF BULK AT MOST 1048576: true; the input reads as it did. -/
def fnQueueRunsUptoRow : OpenClaim := { program := "ytinajjceojfflaa", sum := "1d87c79f27d87e2fad551d55c22131ce1eb0ce9b70b5ef2469d10915873b4f2a", func := "pub-copsewood/laws.FnQueueRuns", spec := "fnQueueRuns", unfollowed := true, recurses := true, apart := false, narrowed := true }
def FnQueueRunsUptoSaid : Prop := fnQueueRunsUptoRow.holds Try.pinned (OpenSpec.upto fnQueueRunsSpec)

/-- 'laws.FnListBack', WHERE WHAT IT READS IS OF BULK AT MOST 1048576: true; the input reads as it did. -/
def fnListBackUptoRow : OpenClaim := { program := "ytinajjceojfflaa", sum := "1d87c79f27d87e2fad551d55c22131ce1eb0ce9b70b5ef2469d10915873b4f2a", func := "pub-copsewood/laws.FnListBack", spec := "fnListBack", unfollowed := true, recurses := true, apart := false, narrowed := true }
def FnListBackUptoSaid : Prop := fnListBackUptoRow.holds Try.pinned (OpenSpec.upto fnListBackSpec)

/-- 'laws.FnQueueStack', WHERE WHAT IT READS IS OF BULK AT MOST 1048576: true; the input reads as it did. -/
def fnQueueStackUptoRow : OpenClaim := { program := "ytinajjceojfflaa", sum := "1d87c79f27d87e2fad551d55c22131ce1eb0ce9b70b5ef2469d10915873b4f2a", func := "pub-copsewood/laws.FnQueueStack", spec := "fnQueueStack", unfollowed := true, recurses := true, apart := false, narrowed := true }
def FnQueueStackUptoSaid : Prop := fnQueueStackUptoRow.holds Try.pinned (OpenSpec.upto fnQueueStackSpec)

/-- 'laws.FnCacheEvicts', WHERE WHAT IT READS IS OF BULK AT MOST 1048576: true; the input reads as it did. -/
def fnCacheEvictsUptoRow : OpenClaim := { program := "ytinajjceojfflaa", sum := "1d87c79f27d87e2fad551d55c22131ce1eb0ce9b70b5ef2469d10915873b4f2a", func := "pub-copsewood/laws.FnCacheEvicts", spec := "fnCacheEvicts", unfollowed := true, recurses := true, apart := false, narrowed := true }
def FnCacheEvictsUptoSaid : Prop := fnCacheEvictsUptoRow.holds Try.pinned (OpenSpec.upto fnCacheEvictsSpec)

end Rows
end Go.Proofs.Ytinajjceojfflaa
