/-
  No cell of these rows narrows 'for every input' (looked for: loops, veiled, ifaces, maps, wideKeys, modest, calm, conditions, laid).
  DERIVED. THE GIVEN ROWS OF THIS SEAT. 11 by the template 'for every input the law returns true; each argument reads behind the call as it read before'; 0 by the template 'total and deterministic' (their statements: YtomclflknjkhfaaTotals.lean).
  GIVEN WITH THE SEED: the statements are not yours to turn. If you find one false, say at which input.
  Laid BY PROGRAM, IN A SANDBOX (cutbox-rows.mjs): the forced cells as the released guide's own fill.sh prints them over the translation 59450b5d20bb88d7… (all of the seat's roots in one cut). By AI agents, Wed Nov 11 2026. No macro, syntax, notation, axiom, sorry.
-/
import Derived.Test.YtomclflknjkhfaaChecked
import GoSem.Claim
import GoSem.ClaimJoined
import GoSem.ClaimMapViews
import Derived.JoinedTies
import Derived.KernelRfl
namespace Go.Proofs.Ytomclflknjkhfaa
/- THE CELL 'sum', in the pinned program and in every row, IS THE sha256 OF THE DUMP (.gsa) THAT YtomclflknjkhfaaProg.lean LOADS. Nothing in Lean hashes anything: it is a label: what it is worth is what the hold of that sum in a sandbox is worth. -/
noncomputable def Try.pinned : Pinned := { name := "ytomclflknjkhfaa", sum := "59450b5d20bb88d7e18d304bdf03523547191f5b53941a2c180b5f0239668036", checked := Try.checked }
namespace Rows
def none {H : Type} : Left H := { results := [], args := [] }

/-- 'laws.FnTrieBegin': WHATEVER THE INPUT: true; the input reads as it did. -/
def fnTrieBeginSpec : ChangeSpec := { name := "fnTrieBegin", fn := fun _ => fun
  | [d1, d2] => { results := [.lit (.bool true)], args := [d1, d2] }
  | _ => none }
def fnTrieBeginRow : OpenClaim := { program := "ytomclflknjkhfaa", sum := "59450b5d20bb88d7e18d304bdf03523547191f5b53941a2c180b5f0239668036", func := "pub-copsewood/laws.FnTrieBegin", spec := "fnTrieBegin", recurses := true, apart := false }
def FnTrieBeginSaid : Prop := fnTrieBeginRow.holds Try.pinned (OpenSpec.ofChange fnTrieBeginSpec)

/-- ITS FALSE NEIGHBOUR: 'it returns false'. Refute it at one input. -/
def fnTrieBeginWrong : ChangeSpec := { name := "fnTrieBegin", fn := fun _ => fun
  | [d1, d2] => { results := [.lit (.bool false)], args := [d1, d2] }
  | _ => none }
def FnTrieBeginWrongFalsely : Prop := fnTrieBeginRow.holds Try.pinned (OpenSpec.ofChange fnTrieBeginWrong)

/-- 'laws.FnTrieLongest': WHATEVER THE INPUT: true; the input reads as it did. -/
def fnTrieLongestSpec : ChangeSpec := { name := "fnTrieLongest", fn := fun _ => fun
  | [d1, d2] => { results := [.lit (.bool true)], args := [d1, d2] }
  | _ => none }
def fnTrieLongestRow : OpenClaim := { program := "ytomclflknjkhfaa", sum := "59450b5d20bb88d7e18d304bdf03523547191f5b53941a2c180b5f0239668036", func := "pub-copsewood/laws.FnTrieLongest", spec := "fnTrieLongest", recurses := true, apart := false }
def FnTrieLongestSaid : Prop := fnTrieLongestRow.holds Try.pinned (OpenSpec.ofChange fnTrieLongestSpec)

/-- ITS FALSE NEIGHBOUR: 'it returns false'. Refute it at one input. -/
def fnTrieLongestWrong : ChangeSpec := { name := "fnTrieLongest", fn := fun _ => fun
  | [d1, d2] => { results := [.lit (.bool false)], args := [d1, d2] }
  | _ => none }
def FnTrieLongestWrongFalsely : Prop := fnTrieLongestRow.holds Try.pinned (OpenSpec.ofChange fnTrieLongestWrong)

/-- 'laws.FnTrieOrder': WHATEVER THE INPUT: true; the input reads as it did. -/
def fnTrieOrderSpec : ChangeSpec := { name := "fnTrieOrder", fn := fun _ => fun
  | [d1, d2, d3] => { results := [.lit (.bool true)], args := [d1, d2, d3] }
  | _ => none }
def fnTrieOrderRow : OpenClaim := { program := "ytomclflknjkhfaa", sum := "59450b5d20bb88d7e18d304bdf03523547191f5b53941a2c180b5f0239668036", func := "pub-copsewood/laws.FnTrieOrder", spec := "fnTrieOrder", recurses := true, apart := false }
def FnTrieOrderSaid : Prop := fnTrieOrderRow.holds Try.pinned (OpenSpec.ofChange fnTrieOrderSpec)

/-- ITS FALSE NEIGHBOUR: 'it returns false'. Refute it at one input. -/
def fnTrieOrderWrong : ChangeSpec := { name := "fnTrieOrder", fn := fun _ => fun
  | [d1, d2, d3] => { results := [.lit (.bool false)], args := [d1, d2, d3] }
  | _ => none }
def FnTrieOrderWrongFalsely : Prop := fnTrieOrderRow.holds Try.pinned (OpenSpec.ofChange fnTrieOrderWrong)

/-- 'laws.FnTriePrefix': WHATEVER THE INPUT: true; the input reads as it did. -/
def fnTriePrefixSpec : ChangeSpec := { name := "fnTriePrefix", fn := fun _ => fun
  | [d1, d2] => { results := [.lit (.bool true)], args := [d1, d2] }
  | _ => none }
def fnTriePrefixRow : OpenClaim := { program := "ytomclflknjkhfaa", sum := "59450b5d20bb88d7e18d304bdf03523547191f5b53941a2c180b5f0239668036", func := "pub-copsewood/laws.FnTriePrefix", spec := "fnTriePrefix", recurses := true, apart := false }
def FnTriePrefixSaid : Prop := fnTriePrefixRow.holds Try.pinned (OpenSpec.ofChange fnTriePrefixSpec)

/-- ITS FALSE NEIGHBOUR: 'it returns false'. Refute it at one input. -/
def fnTriePrefixWrong : ChangeSpec := { name := "fnTriePrefix", fn := fun _ => fun
  | [d1, d2] => { results := [.lit (.bool false)], args := [d1, d2] }
  | _ => none }
def FnTriePrefixWrongFalsely : Prop := fnTriePrefixRow.holds Try.pinned (OpenSpec.ofChange fnTriePrefixWrong)

/-- 'laws.FnTrieRise': WHATEVER THE INPUT: true; the input reads as it did. -/
def fnTrieRiseSpec : ChangeSpec := { name := "fnTrieRise", fn := fun _ => fun
  | [d] => { results := [.lit (.bool true)], args := [d] }
  | _ => none }
def fnTrieRiseRow : OpenClaim := { program := "ytomclflknjkhfaa", sum := "59450b5d20bb88d7e18d304bdf03523547191f5b53941a2c180b5f0239668036", func := "pub-copsewood/laws.FnTrieRise", spec := "fnTrieRise", recurses := true, apart := false }
def FnTrieRiseSaid : Prop := fnTrieRiseRow.holds Try.pinned (OpenSpec.ofChange fnTrieRiseSpec)

/-- ITS FALSE NEIGHBOUR: 'it returns false'. Refute it at one input. -/
def fnTrieRiseWrong : ChangeSpec := { name := "fnTrieRise", fn := fun _ => fun
  | [d] => { results := [.lit (.bool false)], args := [d] }
  | _ => none }
def FnTrieRiseWrongFalsely : Prop := fnTrieRiseRow.holds Try.pinned (OpenSpec.ofChange fnTrieRiseWrong)

/-- 'laws.FnIntervalAdd': WHATEVER THE INPUT: true; the input reads as it did. -/
def fnIntervalAddSpec : ChangeSpec := { name := "fnIntervalAdd", fn := fun _ => fun
  | [d1, d2] => { results := [.lit (.bool true)], args := [d1, d2] }
  | _ => none }
def fnIntervalAddRow : OpenClaim := { program := "ytomclflknjkhfaa", sum := "59450b5d20bb88d7e18d304bdf03523547191f5b53941a2c180b5f0239668036", func := "pub-copsewood/laws.FnIntervalAdd", spec := "fnIntervalAdd", unfollowed := true, recurses := true, apart := false }
def FnIntervalAddSaid : Prop := fnIntervalAddRow.holds Try.pinned (OpenSpec.ofChange fnIntervalAddSpec)

/-- ITS FALSE NEIGHBOUR: 'it returns false'. Refute it at one input. -/
def fnIntervalAddWrong : ChangeSpec := { name := "fnIntervalAdd", fn := fun _ => fun
  | [d1, d2] => { results := [.lit (.bool false)], args := [d1, d2] }
  | _ => none }
def FnIntervalAddWrongFalsely : Prop := fnIntervalAddRow.holds Try.pinned (OpenSpec.ofChange fnIntervalAddWrong)

/-- 'laws.FnIntervalBegin': WHATEVER THE INPUT: true; the input reads as it did. -/
def fnIntervalBeginSpec : ChangeSpec := { name := "fnIntervalBegin", fn := fun _ => fun
  | [d1, d2] => { results := [.lit (.bool true)], args := [d1, d2] }
  | _ => none }
def fnIntervalBeginRow : OpenClaim := { program := "ytomclflknjkhfaa", sum := "59450b5d20bb88d7e18d304bdf03523547191f5b53941a2c180b5f0239668036", func := "pub-copsewood/laws.FnIntervalBegin", spec := "fnIntervalBegin", unfollowed := true, recurses := true, apart := false }
def FnIntervalBeginSaid : Prop := fnIntervalBeginRow.holds Try.pinned (OpenSpec.ofChange fnIntervalBeginSpec)

/-- ITS FALSE NEIGHBOUR: 'it returns false'. Refute it at one input. -/
def fnIntervalBeginWrong : ChangeSpec := { name := "fnIntervalBegin", fn := fun _ => fun
  | [d1, d2] => { results := [.lit (.bool false)], args := [d1, d2] }
  | _ => none }
def FnIntervalBeginWrongFalsely : Prop := fnIntervalBeginRow.holds Try.pinned (OpenSpec.ofChange fnIntervalBeginWrong)

/-- 'laws.FnOverlapsMean': WHATEVER THE INPUT: true; the input reads as it did. -/
def fnOverlapsMeanSpec : ChangeSpec := { name := "fnOverlapsMean", fn := fun _ => fun
  | [d1, d2, d3] => { results := [.lit (.bool true)], args := [d1, d2, d3] }
  | _ => none }
def fnOverlapsMeanRow : OpenClaim := { program := "ytomclflknjkhfaa", sum := "59450b5d20bb88d7e18d304bdf03523547191f5b53941a2c180b5f0239668036", func := "pub-copsewood/laws.FnOverlapsMean", spec := "fnOverlapsMean", unfollowed := true, recurses := true, apart := false }
def FnOverlapsMeanSaid : Prop := fnOverlapsMeanRow.holds Try.pinned (OpenSpec.ofChange fnOverlapsMeanSpec)

/-- ITS FALSE NEIGHBOUR: 'it returns false'. Refute it at one input. -/
def fnOverlapsMeanWrong : ChangeSpec := { name := "fnOverlapsMean", fn := fun _ => fun
  | [d1, d2, d3] => { results := [.lit (.bool false)], args := [d1, d2, d3] }
  | _ => none }
def FnOverlapsMeanWrongFalsely : Prop := fnOverlapsMeanRow.holds Try.pinned (OpenSpec.ofChange fnOverlapsMeanWrong)

/-- 'laws.FnOverlapsOne': WHATEVER THE INPUT: true; the input reads as it did. -/
def fnOverlapsOneSpec : ChangeSpec := { name := "fnOverlapsOne", fn := fun _ => fun
  | [d1, d2] => { results := [.lit (.bool true)], args := [d1, d2] }
  | _ => none }
def fnOverlapsOneRow : OpenClaim := { program := "ytomclflknjkhfaa", sum := "59450b5d20bb88d7e18d304bdf03523547191f5b53941a2c180b5f0239668036", func := "pub-copsewood/laws.FnOverlapsOne", spec := "fnOverlapsOne", unfollowed := true, recurses := true, apart := false }
def FnOverlapsOneSaid : Prop := fnOverlapsOneRow.holds Try.pinned (OpenSpec.ofChange fnOverlapsOneSpec)

/-- ITS FALSE NEIGHBOUR: 'it returns false'. Refute it at one input. -/
def fnOverlapsOneWrong : ChangeSpec := { name := "fnOverlapsOne", fn := fun _ => fun
  | [d1, d2] => { results := [.lit (.bool false)], args := [d1, d2] }
  | _ => none }
def FnOverlapsOneWrongFalsely : Prop := fnOverlapsOneRow.holds Try.pinned (OpenSpec.ofChange fnOverlapsOneWrong)

/-- 'laws.FnIntervalOnRuns': WHATEVER THE INPUT: true; the input reads as it did. -/
def fnIntervalOnRunsSpec : ChangeSpec := { name := "fnIntervalOnRuns", fn := fun _ => fun
  | [d1, d2] => { results := [.lit (.bool true)], args := [d1, d2] }
  | _ => none }
def fnIntervalOnRunsRow : OpenClaim := { program := "ytomclflknjkhfaa", sum := "59450b5d20bb88d7e18d304bdf03523547191f5b53941a2c180b5f0239668036", func := "pub-copsewood/laws.FnIntervalOnRuns", spec := "fnIntervalOnRuns", unfollowed := true, recurses := true, apart := false }
def FnIntervalOnRunsSaid : Prop := fnIntervalOnRunsRow.holds Try.pinned (OpenSpec.ofChange fnIntervalOnRunsSpec)

/-- ITS FALSE NEIGHBOUR: 'it returns false'. Refute it at one input. -/
def fnIntervalOnRunsWrong : ChangeSpec := { name := "fnIntervalOnRuns", fn := fun _ => fun
  | [d1, d2] => { results := [.lit (.bool false)], args := [d1, d2] }
  | _ => none }
def FnIntervalOnRunsWrongFalsely : Prop := fnIntervalOnRunsRow.holds Try.pinned (OpenSpec.ofChange fnIntervalOnRunsWrong)

/-- 'laws.FnIntervalTree': WHATEVER THE INPUT: true; the input reads as it did. -/
def fnIntervalTreeSpec : ChangeSpec := { name := "fnIntervalTree", fn := fun _ => fun
  | [d] => { results := [.lit (.bool true)], args := [d] }
  | _ => none }
def fnIntervalTreeRow : OpenClaim := { program := "ytomclflknjkhfaa", sum := "59450b5d20bb88d7e18d304bdf03523547191f5b53941a2c180b5f0239668036", func := "pub-copsewood/laws.FnIntervalTree", spec := "fnIntervalTree", unfollowed := true, recurses := true, apart := false }
def FnIntervalTreeSaid : Prop := fnIntervalTreeRow.holds Try.pinned (OpenSpec.ofChange fnIntervalTreeSpec)

/-- ITS FALSE NEIGHBOUR: 'it returns false'. Refute it at one input. -/
def fnIntervalTreeWrong : ChangeSpec := { name := "fnIntervalTree", fn := fun _ => fun
  | [d] => { results := [.lit (.bool false)], args := [d] }
  | _ => none }
def FnIntervalTreeWrongFalsely : Prop := fnIntervalTreeRow.holds Try.pinned (OpenSpec.ofChange fnIntervalTreeWrong)

/- THE SECOND FORM. 'bulk': how many values and letters a reading holds, each counted each time it is reached (what is shared counts as often as it is met; a slice's spare places count too). A statement '..UptoSaid' is the law's where the arguments, and the package variables that the reading takes, are together of bulk at most 1048576: NARROWER than '..Said'. Prove '..Said' where nothing that the law and all that it calls make is longer than what came in: it says more and counts as full. Else prove '..UptoSaid'. A law counts once. -/
mutual
def uptoBulk {H : Type} : DataW H → Nat
  | .lit (.string bytes) => bytes.length + 1
  | .lit _ => 1
  | .nil => 1
  | .ptr d => uptoBulk d + 1
  | .slice elems spare => uptoBulkAll elems + uptoBulkAll spare + 1
  | .agg parts => uptoBulkAll parts + 1
  | .iface _ d => uptoBulk d + 1
  | .map entries => uptoBulkEntries entries + 1
  | .held _ => 1
def uptoBulkAll {H : Type} : List (DataW H) → Nat
  | [] => 0
  | d :: r => uptoBulk d + uptoBulkAll r
def uptoBulkEntries {H : Type} : List (Lit × DataW H) → Nat
  | [] => 0
  | x :: r => uptoBulkEntry x + uptoBulkEntries r
def uptoBulkEntry {H : Type} : Lit × DataW H → Nat
  | (.string bytes, d) => bytes.length + uptoBulk d + 1
  | (_, d) => uptoBulk d + 1
 end
def uptoSmall : (H : Type) → List (DataW H) → Bool := fun _ ds => decide (uptoBulkAll ds ≤ 1048576)
def OpenSpec.upto (s : _root_.Go.ChangeSpec) : _root_.Go.OpenSpec := { _root_.Go.OpenSpec.ofChange s with cond := some uptoSmall }

/-- 'laws.FnTrieBegin', WHERE WHAT IT READS IS OF BULK AT MOST 1048576: true; the input reads as it did. -/
def fnTrieBeginUptoRow : OpenClaim := { program := "ytomclflknjkhfaa", sum := "59450b5d20bb88d7e18d304bdf03523547191f5b53941a2c180b5f0239668036", func := "pub-copsewood/laws.FnTrieBegin", spec := "fnTrieBegin", recurses := true, apart := false, narrowed := true }
def FnTrieBeginUptoSaid : Prop := fnTrieBeginUptoRow.holds Try.pinned (OpenSpec.upto fnTrieBeginSpec)

/-- 'laws.FnTrieLongest', WHERE WHAT IT READS IS OF BULK AT MOST 1048576: true; the input reads as it did. -/
def fnTrieLongestUptoRow : OpenClaim := { program := "ytomclflknjkhfaa", sum := "59450b5d20bb88d7e18d304bdf03523547191f5b53941a2c180b5f0239668036", func := "pub-copsewood/laws.FnTrieLongest", spec := "fnTrieLongest", recurses := true, apart := false, narrowed := true }
def FnTrieLongestUptoSaid : Prop := fnTrieLongestUptoRow.holds Try.pinned (OpenSpec.upto fnTrieLongestSpec)

/-- 'laws.FnTrieOrder', WHERE WHAT IT READS IS OF BULK AT MOST 1048576: true; the input reads as it did. -/
def fnTrieOrderUptoRow : OpenClaim := { program := "ytomclflknjkhfaa", sum := "59450b5d20bb88d7e18d304bdf03523547191f5b53941a2c180b5f0239668036", func := "pub-copsewood/laws.FnTrieOrder", spec := "fnTrieOrder", recurses := true, apart := false, narrowed := true }
def FnTrieOrderUptoSaid : Prop := fnTrieOrderUptoRow.holds Try.pinned (OpenSpec.upto fnTrieOrderSpec)

/-- 'laws.FnTriePrefix', WHERE WHAT IT READS IS OF BULK AT MOST 1048576: true; the input reads as it did. -/
def fnTriePrefixUptoRow : OpenClaim := { program := "ytomclflknjkhfaa", sum := "59450b5d20bb88d7e18d304bdf03523547191f5b53941a2c180b5f0239668036", func := "pub-copsewood/laws.FnTriePrefix", spec := "fnTriePrefix", recurses := true, apart := false, narrowed := true }
def FnTriePrefixUptoSaid : Prop := fnTriePrefixUptoRow.holds Try.pinned (OpenSpec.upto fnTriePrefixSpec)

/-- 'laws.FnTrieRise', WHERE WHAT IT READS IS OF BULK AT MOST 1048576: true; the input reads as it did. -/
def fnTrieRiseUptoRow : OpenClaim := { program := "ytomclflknjkhfaa", sum := "59450b5d20bb88d7e18d304bdf03523547191f5b53941a2c180b5f0239668036", func := "pub-copsewood/laws.FnTrieRise", spec := "fnTrieRise", recurses := true, apart := false, narrowed := true }
def FnTrieRiseUptoSaid : Prop := fnTrieRiseUptoRow.holds Try.pinned (OpenSpec.upto fnTrieRiseSpec)

/-- 'laws.FnIntervalAdd', WHERE WHAT IT READS IS OF BULK AT MOST 1048576: true; the input reads as it did. -/
def fnIntervalAddUptoRow : OpenClaim := { program := "ytomclflknjkhfaa", sum := "59450b5d20bb88d7e18d304bdf03523547191f5b53941a2c180b5f0239668036", func := "pub-copsewood/laws.FnIntervalAdd", spec := "fnIntervalAdd", unfollowed := true, recurses := true, apart := false, narrowed := true }
def FnIntervalAddUptoSaid : Prop := fnIntervalAddUptoRow.holds Try.pinned (OpenSpec.upto fnIntervalAddSpec)

/-- 'laws.FnIntervalBegin', WHERE WHAT IT READS IS OF BULK AT MOST 1048576: true; the input reads as it did. -/
def fnIntervalBeginUptoRow : OpenClaim := { program := "ytomclflknjkhfaa", sum := "59450b5d20bb88d7e18d304bdf03523547191f5b53941a2c180b5f0239668036", func := "pub-copsewood/laws.FnIntervalBegin", spec := "fnIntervalBegin", unfollowed := true, recurses := true, apart := false, narrowed := true }
def FnIntervalBeginUptoSaid : Prop := fnIntervalBeginUptoRow.holds Try.pinned (OpenSpec.upto fnIntervalBeginSpec)

/-- 'laws.FnOverlapsMean', WHERE WHAT IT READS IS OF BULK AT MOST 1048576: true; the input reads as it did. -/
def fnOverlapsMeanUptoRow : OpenClaim := { program := "ytomclflknjkhfaa", sum := "59450b5d20bb88d7e18d304bdf03523547191f5b53941a2c180b5f0239668036", func := "pub-copsewood/laws.FnOverlapsMean", spec := "fnOverlapsMean", unfollowed := true, recurses := true, apart := false, narrowed := true }
def FnOverlapsMeanUptoSaid : Prop := fnOverlapsMeanUptoRow.holds Try.pinned (OpenSpec.upto fnOverlapsMeanSpec)

/-- 'laws.FnOverlapsOne', WHERE WHAT IT READS IS OF BULK AT MOST 1048576: true; the input reads as it did. -/
def fnOverlapsOneUptoRow : OpenClaim := { program := "ytomclflknjkhfaa", sum := "59450b5d20bb88d7e18d304bdf03523547191f5b53941a2c180b5f0239668036", func := "pub-copsewood/laws.FnOverlapsOne", spec := "fnOverlapsOne", unfollowed := true, recurses := true, apart := false, narrowed := true }
def FnOverlapsOneUptoSaid : Prop := fnOverlapsOneUptoRow.holds Try.pinned (OpenSpec.upto fnOverlapsOneSpec)

/-- 'laws.FnIntervalOnRuns', WHERE WHAT IT READS IS OF BULK AT MOST 1048576: true; the input reads as it did. -/
def fnIntervalOnRunsUptoRow : OpenClaim := { program := "ytomclflknjkhfaa", sum := "59450b5d20bb88d7e18d304bdf03523547191f5b53941a2c180b5f0239668036", func := "pub-copsewood/laws.FnIntervalOnRuns", spec := "fnIntervalOnRuns", unfollowed := true, recurses := true, apart := false, narrowed := true }
def FnIntervalOnRunsUptoSaid : Prop := fnIntervalOnRunsUptoRow.holds Try.pinned (OpenSpec.upto fnIntervalOnRunsSpec)

/-- 'laws.FnIntervalTree', WHERE WHAT IT READS IS OF BULK AT MOST 1048576: true; the input reads as it did. -/
def fnIntervalTreeUptoRow : OpenClaim := { program := "ytomclflknjkhfaa", sum := "59450b5d20bb88d7e18d304bdf03523547191f5b53941a2c180b5f0239668036", func := "pub-copsewood/laws.FnIntervalTree", spec := "fnIntervalTree", unfollowed := true, recurses := true, apart := false, narrowed := true }
def FnIntervalTreeUptoSaid : Prop := fnIntervalTreeUptoRow.holds Try.pinned (OpenSpec.upto fnIntervalTreeSpec)

end Rows
end Go.Proofs.Ytomclflknjkhfaa
