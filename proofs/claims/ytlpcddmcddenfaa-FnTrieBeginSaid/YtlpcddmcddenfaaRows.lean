/-
  No cell of these rows narrows 'for every input' (looked for: loops, veiled, ifaces, maps, wideKeys, modest, calm, conditions, laid).
  DERIVED. THE GIVEN ROWS OF THIS SEAT. 5 by the template 'for every input the law returns true; each argument reads behind the call as it read before'; 0 by the template 'total and deterministic' (their statements: YtlpcddmcddenfaaTotals.lean).
  GIVEN WITH THE SEED: the statements are not yours to turn. If you find one false, say at which input.
  Laid BY PROGRAM, IN A SANDBOX (cutbox-rows.mjs): the forced cells as the released guide's own fill.sh prints them over the translation 5669e15d26f9f5fa… (all of the seat's roots in one cut). By AI agents, Wed Nov 11 2026. No macro, syntax, notation, axiom, sorry.
-/
import Derived.Test.YtlpcddmcddenfaaChecked
import GoSem.Claim
import GoSem.ClaimJoined
import GoSem.ClaimMapViews
import Derived.JoinedTies
import Derived.KernelRfl
namespace Go.Proofs.Ytlpcddmcddenfaa
/- THE CELL 'sum', in the pinned program and in every row, IS THE sha256 OF THE DUMP (.gsa) THAT YtlpcddmcddenfaaProg.lean LOADS. Nothing in Lean hashes anything: it is a label: what it is worth is what the hold of that sum in a sandbox is worth. -/
noncomputable def Try.pinned : Pinned := { name := "ytlpcddmcddenfaa", sum := "5669e15d26f9f5fa30c127c14180d1b650282862d82a981ec05c7285e0cf6ad8", checked := Try.checked }
namespace Rows
def none {H : Type} : Left H := { results := [], args := [] }

/-- 'laws.FnTrieBegin': WHATEVER THE INPUT: true; the input reads as it did. -/
def fnTrieBeginSpec : ChangeSpec := { name := "fnTrieBegin", fn := fun _ => fun
  | [d1, d2] => { results := [.lit (.bool true)], args := [d1, d2] }
  | _ => none }
def fnTrieBeginRow : OpenClaim := { program := "ytlpcddmcddenfaa", sum := "5669e15d26f9f5fa30c127c14180d1b650282862d82a981ec05c7285e0cf6ad8", func := "pub-copsewood/laws.FnTrieBegin", spec := "fnTrieBegin", recurses := true, apart := false }
def FnTrieBeginSaid : Prop := fnTrieBeginRow.holds Try.pinned (OpenSpec.ofChange fnTrieBeginSpec)

/-- ITS FALSE NEIGHBOUR: 'it returns false'. Refute it at one input. -/
def fnTrieBeginWrong : ChangeSpec := { name := "fnTrieBegin", fn := fun _ => fun
  | [d1, d2] => { results := [.lit (.bool false)], args := [d1, d2] }
  | _ => none }
def FnTrieBeginWrongFalsely : Prop := fnTrieBeginRow.holds Try.pinned (OpenSpec.ofChange fnTrieBeginWrong)

/-- 'laws.FnTrieLongest': WHATEVER THE INPUT: true; the input reads as it did. -/
def fnTrieLongestSpec : ChangeSpec := { name := "fnTrieLongest", fn := fun _ => fun
  | [d1, d2] => { results := [.lit (.bool true)], args := [d1, d2] }
  | _ => none }
def fnTrieLongestRow : OpenClaim := { program := "ytlpcddmcddenfaa", sum := "5669e15d26f9f5fa30c127c14180d1b650282862d82a981ec05c7285e0cf6ad8", func := "pub-copsewood/laws.FnTrieLongest", spec := "fnTrieLongest", recurses := true, apart := false }
def FnTrieLongestSaid : Prop := fnTrieLongestRow.holds Try.pinned (OpenSpec.ofChange fnTrieLongestSpec)

/-- ITS FALSE NEIGHBOUR: 'it returns false'. Refute it at one input. -/
def fnTrieLongestWrong : ChangeSpec := { name := "fnTrieLongest", fn := fun _ => fun
  | [d1, d2] => { results := [.lit (.bool false)], args := [d1, d2] }
  | _ => none }
def FnTrieLongestWrongFalsely : Prop := fnTrieLongestRow.holds Try.pinned (OpenSpec.ofChange fnTrieLongestWrong)

/-- 'laws.FnTrieOrder': WHATEVER THE INPUT: true; the input reads as it did. -/
def fnTrieOrderSpec : ChangeSpec := { name := "fnTrieOrder", fn := fun _ => fun
  | [d1, d2, d3] => { results := [.lit (.bool true)], args := [d1, d2, d3] }
  | _ => none }
def fnTrieOrderRow : OpenClaim := { program := "ytlpcddmcddenfaa", sum := "5669e15d26f9f5fa30c127c14180d1b650282862d82a981ec05c7285e0cf6ad8", func := "pub-copsewood/laws.FnTrieOrder", spec := "fnTrieOrder", recurses := true, apart := false }
def FnTrieOrderSaid : Prop := fnTrieOrderRow.holds Try.pinned (OpenSpec.ofChange fnTrieOrderSpec)

/-- ITS FALSE NEIGHBOUR: 'it returns false'. Refute it at one input. -/
def fnTrieOrderWrong : ChangeSpec := { name := "fnTrieOrder", fn := fun _ => fun
  | [d1, d2, d3] => { results := [.lit (.bool false)], args := [d1, d2, d3] }
  | _ => none }
def FnTrieOrderWrongFalsely : Prop := fnTrieOrderRow.holds Try.pinned (OpenSpec.ofChange fnTrieOrderWrong)

/-- 'laws.FnTriePrefix': WHATEVER THE INPUT: true; the input reads as it did. -/
def fnTriePrefixSpec : ChangeSpec := { name := "fnTriePrefix", fn := fun _ => fun
  | [d1, d2] => { results := [.lit (.bool true)], args := [d1, d2] }
  | _ => none }
def fnTriePrefixRow : OpenClaim := { program := "ytlpcddmcddenfaa", sum := "5669e15d26f9f5fa30c127c14180d1b650282862d82a981ec05c7285e0cf6ad8", func := "pub-copsewood/laws.FnTriePrefix", spec := "fnTriePrefix", recurses := true, apart := false }
def FnTriePrefixSaid : Prop := fnTriePrefixRow.holds Try.pinned (OpenSpec.ofChange fnTriePrefixSpec)

/-- ITS FALSE NEIGHBOUR: 'it returns false'. Refute it at one input. -/
def fnTriePrefixWrong : ChangeSpec := { name := "fnTriePrefix", fn := fun _ => fun
  | [d1, d2] => { results := [.lit (.bool false)], args := [d1, d2] }
  | _ => none }
def FnTriePrefixWrongFalsely : Prop := fnTriePrefixRow.holds Try.pinned (OpenSpec.ofChange fnTriePrefixWrong)

/-- 'laws.FnTrieRise': WHATEVER THE INPUT: true; the input reads as it did. -/
def fnTrieRiseSpec : ChangeSpec := { name := "fnTrieRise", fn := fun _ => fun
  | [d] => { results := [.lit (.bool true)], args := [d] }
  | _ => none }
def fnTrieRiseRow : OpenClaim := { program := "ytlpcddmcddenfaa", sum := "5669e15d26f9f5fa30c127c14180d1b650282862d82a981ec05c7285e0cf6ad8", func := "pub-copsewood/laws.FnTrieRise", spec := "fnTrieRise", recurses := true, apart := false }
def FnTrieRiseSaid : Prop := fnTrieRiseRow.holds Try.pinned (OpenSpec.ofChange fnTrieRiseSpec)

/-- ITS FALSE NEIGHBOUR: 'it returns false'. Refute it at one input. -/
def fnTrieRiseWrong : ChangeSpec := { name := "fnTrieRise", fn := fun _ => fun
  | [d] => { results := [.lit (.bool false)], args := [d] }
  | _ => none }
def FnTrieRiseWrongFalsely : Prop := fnTrieRiseRow.holds Try.pinned (OpenSpec.ofChange fnTrieRiseWrong)

/- THE SECOND FORM. 'bulk': how many values and letters a reading holds, each counted each time it is reached (what is shared counts as often as it is met; a slice's spare places count too). A statement '..UptoSaid' is the law's where the arguments, and the package variables that the reading takes, are together of bulk at most 1048576: NARROWER than '..Said'. Prove '..Said' where nothing that the law and all that it calls make is longer than what came in: it says more and counts as full. Else prove '..UptoSaid'. A law counts once. -/
mutual
def uptoBulk {H : Type} : DataW H → Nat
  | .lit (.string bytes) => bytes.length + 1
  | .lit _ => 1
  | .nil => 1
  | .ptr d => uptoBulk d + 1
  | .slice elems spare => uptoBulkAll elems + uptoBulkAll spare + 1
  | .agg parts => uptoBulkAll parts + 1
  | .iface _ d => uptoBulk d + 1
  | .map entries => uptoBulkEntries entries + 1
  | .held _ => 1
def uptoBulkAll {H : Type} : List (DataW H) → Nat
  | [] => 0
  | d :: r => uptoBulk d + uptoBulkAll r
def uptoBulkEntries {H : Type} : List (Lit × DataW H) → Nat
  | [] => 0
  | x :: r => uptoBulkEntry x + uptoBulkEntries r
def uptoBulkEntry {H : Type} : Lit × DataW H → Nat
  | (.string bytes, d) => bytes.length + uptoBulk d + 1
  | (_, d) => uptoBulk d + 1
 end
def uptoSmall : (H : Type) → List (DataW H) → Bool := fun _ ds => decide (uptoBulkAll ds ≤ 1048576)
def OpenSpec.upto (s : _root_.Go.ChangeSpec) : _root_.Go.OpenSpec := { _root_.Go.OpenSpec.ofChange s with cond := some uptoSmall }

/-- 'laws.FnTrieBegin', WHERE WHAT IT READS IS OF BULK AT MOST 1048576: true; the input reads as it did. -/
def fnTrieBeginUptoRow : OpenClaim := { program := "ytlpcddmcddenfaa", sum := "5669e15d26f9f5fa30c127c14180d1b650282862d82a981ec05c7285e0cf6ad8", func := "pub-copsewood/laws.FnTrieBegin", spec := "fnTrieBegin", recurses := true, apart := false, narrowed := true }
def FnTrieBeginUptoSaid : Prop := fnTrieBeginUptoRow.holds Try.pinned (OpenSpec.upto fnTrieBeginSpec)

/-- 'laws.FnTrieLongest', WHERE WHAT IT READS IS OF BULK AT MOST 1048576: true; the input reads as it did. -/
def fnTrieLongestUptoRow : OpenClaim := { program := "ytlpcddmcddenfaa", sum := "5669e15d26f9f5fa30c127c14180d1b650282862d82a981ec05c7285e0cf6ad8", func := "pub-copsewood/laws.FnTrieLongest", spec := "fnTrieLongest", recurses := true, apart := false, narrowed := true }
def FnTrieLongestUptoSaid : Prop := fnTrieLongestUptoRow.holds Try.pinned (OpenSpec.upto fnTrieLongestSpec)

/-- 'laws.FnTrieOrder', WHERE WHAT IT READS IS OF BULK AT MOST 1048576: true; the input reads as it did. -/
def fnTrieOrderUptoRow : OpenClaim := { program := "ytlpcddmcddenfaa", sum := "5669e15d26f9f5fa30c127c14180d1b650282862d82a981ec05c7285e0cf6ad8", func := "pub-copsewood/laws.FnTrieOrder", spec := "fnTrieOrder", recurses := true, apart := false, narrowed := true }
def FnTrieOrderUptoSaid : Prop := fnTrieOrderUptoRow.holds Try.pinned (OpenSpec.upto fnTrieOrderSpec)

/-- 'laws.FnTriePrefix', WHERE WHAT IT READS IS OF BULK AT MOST 1048576: true; the input reads as it did. -/
def fnTriePrefixUptoRow : OpenClaim := { program := "ytlpcddmcddenfaa", sum := "5669e15d26f9f5fa30c127c14180d1b650282862d82a981ec05c7285e0cf6ad8", func := "pub-copsewood/laws.FnTriePrefix", spec := "fnTriePrefix", recurses := true, apart := false, narrowed := true }
def FnTriePrefixUptoSaid : Prop := fnTriePrefixUptoRow.holds Try.pinned (OpenSpec.upto fnTriePrefixSpec)

/-- 'laws.FnTrieRise', WHERE WHAT IT READS IS OF BULK AT MOST 1048576: true; the input reads as it did. -/
def fnTrieRiseUptoRow : OpenClaim := { program := "ytlpcddmcddenfaa", sum := "5669e15d26f9f5fa30c127c14180d1b650282862d82a981ec05c7285e0cf6ad8", func := "pub-copsewood/laws.FnTrieRise", spec := "fnTrieRise", recurses := true, apart := false, narrowed := true }
def FnTrieRiseUptoSaid : Prop := fnTrieRiseUptoRow.holds Try.pinned (OpenSpec.upto fnTrieRiseSpec)

end Rows
end Go.Proofs.Ytlpcddmcddenfaa
