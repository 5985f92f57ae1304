/-
  No cell of these rows narrows 'for every input' (looked for: loops, veiled, ifaces, maps, wideKeys, modest, calm, conditions, laid).
  DERIVED. THE GIVEN ROWS OF THIS SEAT. 12 by the template 'for every input the law returns true; each argument reads behind the call as it read before'; 0 by the template 'total and deterministic' (their statements: YtglfeoiakhnkgaaTotals.lean).
  GIVEN WITH THE SEED: the statements are not yours to turn. If you find one false, say at which input.
  Laid BY PROGRAM, IN A SANDBOX (cutbox-rows.mjs): the forced cells as the released guide's own fill.sh prints them over the translation 1b6e596d15a82cf0… (all of the seat's roots in one cut). By AI agents, Wed Nov 11 2026. No macro, syntax, notation, axiom, sorry.
-/
import Derived.Test.YtglfeoiakhnkgaaChecked
import GoSem.Claim
import GoSem.ClaimJoined
import GoSem.ClaimMapViews
import Derived.JoinedTies
import Derived.KernelRfl
namespace Go.Proofs.Ytglfeoiakhnkgaa
/- THE CELL 'sum', in the pinned program and in every row, IS THE sha256 OF THE DUMP (.gsa) THAT YtglfeoiakhnkgaaProg.lean LOADS. Nothing in Lean hashes anything: it is a label: what it is worth is what the hold of that sum in a sandbox is worth. -/
noncomputable def Try.pinned : Pinned := { name := "ytglfeoiakhnkgaa", sum := "1b6e596d15a82cf057619d695d480386d0b8ccfb9d2888139d6e1601a4fe5a97", checked := Try.checked }
namespace Rows
def none {H : Type} : Left H := { results := [], args := [] }

/-- 'laws.FnApart': WHATEVER THE INPUT: true; the input reads as it did. -/
def fnApartSpec : ChangeSpec := { name := "fnApart", fn := fun _ => fun
  | [d1, d2, d3, d4] => { results := [.lit (.bool true)], args := [d1, d2, d3, d4] }
  | _ => none }
def fnApartRow : OpenClaim := { program := "ytglfeoiakhnkgaa", sum := "1b6e596d15a82cf057619d695d480386d0b8ccfb9d2888139d6e1601a4fe5a97", func := "loop.example/pub-g03239/laws.FnApart", spec := "fnApart", inPlace := ["math/bits.Add64"], apart := false }
def FnApartSaid : Prop := fnApartRow.holds Try.pinned (OpenSpec.ofChange fnApartSpec)

/-- ITS FALSE NEIGHBOUR: 'it returns false'. Refute it at one input. -/
def fnApartWrong : ChangeSpec := { name := "fnApart", fn := fun _ => fun
  | [d1, d2, d3, d4] => { results := [.lit (.bool false)], args := [d1, d2, d3, d4] }
  | _ => none }
def FnApartWrongFalsely : Prop := fnApartRow.holds Try.pinned (OpenSpec.ofChange fnApartWrong)

/-- 'laws.FnNext': WHATEVER THE INPUT: true; the input reads as it did. -/
def fnNextSpec : ChangeSpec := { name := "fnNext", fn := fun _ => fun
  | [d1, d2] => { results := [.lit (.bool true)], args := [d1, d2] }
  | _ => none }
def fnNextRow : OpenClaim := { program := "ytglfeoiakhnkgaa", sum := "1b6e596d15a82cf057619d695d480386d0b8ccfb9d2888139d6e1601a4fe5a97", func := "loop.example/pub-g03239/laws.FnNext", spec := "fnNext", inPlace := ["math/bits.Add64"], apart := false }
def FnNextSaid : Prop := fnNextRow.holds Try.pinned (OpenSpec.ofChange fnNextSpec)

/-- ITS FALSE NEIGHBOUR: 'it returns false'. Refute it at one input. -/
def fnNextWrong : ChangeSpec := { name := "fnNext", fn := fun _ => fun
  | [d1, d2] => { results := [.lit (.bool false)], args := [d1, d2] }
  | _ => none }
def FnNextWrongFalsely : Prop := fnNextRow.holds Try.pinned (OpenSpec.ofChange fnNextWrong)

/-- 'laws.FnNextBack': WHATEVER THE INPUT: true; the input reads as it did. -/
def fnNextBackSpec : ChangeSpec := { name := "fnNextBack", fn := fun _ => fun
  | [d1, d2] => { results := [.lit (.bool true)], args := [d1, d2] }
  | _ => none }
def fnNextBackRow : OpenClaim := { program := "ytglfeoiakhnkgaa", sum := "1b6e596d15a82cf057619d695d480386d0b8ccfb9d2888139d6e1601a4fe5a97", func := "loop.example/pub-g03239/laws.FnNextBack", spec := "fnNextBack", inPlace := ["math/bits.Add64"], apart := false }
def FnNextBackSaid : Prop := fnNextBackRow.holds Try.pinned (OpenSpec.ofChange fnNextBackSpec)

/-- ITS FALSE NEIGHBOUR: 'it returns false'. Refute it at one input. -/
def fnNextBackWrong : ChangeSpec := { name := "fnNextBack", fn := fun _ => fun
  | [d1, d2] => { results := [.lit (.bool false)], args := [d1, d2] }
  | _ => none }
def FnNextBackWrongFalsely : Prop := fnNextBackRow.holds Try.pinned (OpenSpec.ofChange fnNextBackWrong)

/-- 'laws.FnNextOdd': WHATEVER THE INPUT: true; the input reads as it did. -/
def fnNextOddSpec : ChangeSpec := { name := "fnNextOdd", fn := fun _ => fun
  | [d1, d2] => { results := [.lit (.bool true)], args := [d1, d2] }
  | _ => none }
def fnNextOddRow : OpenClaim := { program := "ytglfeoiakhnkgaa", sum := "1b6e596d15a82cf057619d695d480386d0b8ccfb9d2888139d6e1601a4fe5a97", func := "loop.example/pub-g03239/laws.FnNextOdd", spec := "fnNextOdd", inPlace := ["math/bits.Add64"], apart := false }
def FnNextOddSaid : Prop := fnNextOddRow.holds Try.pinned (OpenSpec.ofChange fnNextOddSpec)

/-- ITS FALSE NEIGHBOUR: 'it returns false'. Refute it at one input. -/
def fnNextOddWrong : ChangeSpec := { name := "fnNextOdd", fn := fun _ => fun
  | [d1, d2] => { results := [.lit (.bool false)], args := [d1, d2] }
  | _ => none }
def FnNextOddWrongFalsely : Prop := fnNextOddRow.holds Try.pinned (OpenSpec.ofChange fnNextOddWrong)

/-- 'laws.FnStepSum': WHATEVER THE INPUT: true; the input reads as it did. -/
def fnStepSumSpec : ChangeSpec := { name := "fnStepSum", fn := fun _ => fun
  | [d1, d2, d3, d4] => { results := [.lit (.bool true)], args := [d1, d2, d3, d4] }
  | _ => none }
def fnStepSumRow : OpenClaim := { program := "ytglfeoiakhnkgaa", sum := "1b6e596d15a82cf057619d695d480386d0b8ccfb9d2888139d6e1601a4fe5a97", func := "loop.example/pub-g03239/laws.FnStepSum", spec := "fnStepSum", inPlace := ["math/bits.Add64"], apart := false }
def FnStepSumSaid : Prop := fnStepSumRow.holds Try.pinned (OpenSpec.ofChange fnStepSumSpec)

/-- ITS FALSE NEIGHBOUR: 'it returns false'. Refute it at one input. -/
def fnStepSumWrong : ChangeSpec := { name := "fnStepSum", fn := fun _ => fun
  | [d1, d2, d3, d4] => { results := [.lit (.bool false)], args := [d1, d2, d3, d4] }
  | _ => none }
def FnStepSumWrongFalsely : Prop := fnStepSumRow.holds Try.pinned (OpenSpec.ofChange fnStepSumWrong)

/-- 'laws.FnJump': WHATEVER THE INPUT: true; the input reads as it did. -/
def fnJumpSpec : ChangeSpec := { name := "fnJump", fn := fun _ => fun
  | [d1, d2, d3, d4] => { results := [.lit (.bool true)], args := [d1, d2, d3, d4] }
  | _ => none }
def fnJumpRow : OpenClaim := { program := "ytglfeoiakhnkgaa", sum := "1b6e596d15a82cf057619d695d480386d0b8ccfb9d2888139d6e1601a4fe5a97", func := "loop.example/pub-g03239/laws.FnJump", spec := "fnJump", inPlace := ["math/bits.Add64"], apart := false }
def FnJumpSaid : Prop := fnJumpRow.holds Try.pinned (OpenSpec.ofChange fnJumpSpec)

/-- ITS FALSE NEIGHBOUR: 'it returns false'. Refute it at one input. -/
def fnJumpWrong : ChangeSpec := { name := "fnJump", fn := fun _ => fun
  | [d1, d2, d3, d4] => { results := [.lit (.bool false)], args := [d1, d2, d3, d4] }
  | _ => none }
def FnJumpWrongFalsely : Prop := fnJumpRow.holds Try.pinned (OpenSpec.ofChange fnJumpWrong)

/-- 'laws.FnPrefix': WHATEVER THE INPUT: true; the input reads as it did. -/
def fnPrefixSpec : ChangeSpec := { name := "fnPrefix", fn := fun _ => fun
  | [d1, d2, d3, d4] => { results := [.lit (.bool true)], args := [d1, d2, d3, d4] }
  | _ => none }
def fnPrefixRow : OpenClaim := { program := "ytglfeoiakhnkgaa", sum := "1b6e596d15a82cf057619d695d480386d0b8ccfb9d2888139d6e1601a4fe5a97", func := "loop.example/pub-g03239/laws.FnPrefix", spec := "fnPrefix", inPlace := ["math/bits.Add64"], apart := false }
def FnPrefixSaid : Prop := fnPrefixRow.holds Try.pinned (OpenSpec.ofChange fnPrefixSpec)

/-- ITS FALSE NEIGHBOUR: 'it returns false'. Refute it at one input. -/
def fnPrefixWrong : ChangeSpec := { name := "fnPrefix", fn := fun _ => fun
  | [d1, d2, d3, d4] => { results := [.lit (.bool false)], args := [d1, d2, d3, d4] }
  | _ => none }
def FnPrefixWrongFalsely : Prop := fnPrefixRow.holds Try.pinned (OpenSpec.ofChange fnPrefixWrong)

/-- 'laws.FnWords': WHATEVER THE INPUT: true; the input reads as it did. -/
def fnWordsSpec : ChangeSpec := { name := "fnWords", fn := fun _ => fun
  | [d1, d2, d3] => { results := [.lit (.bool true)], args := [d1, d2, d3] }
  | _ => none }
def fnWordsRow : OpenClaim := { program := "ytglfeoiakhnkgaa", sum := "1b6e596d15a82cf057619d695d480386d0b8ccfb9d2888139d6e1601a4fe5a97", func := "loop.example/pub-g03239/laws.FnWords", spec := "fnWords", inPlace := ["math/bits.Add64"], apart := false }
def FnWordsSaid : Prop := fnWordsRow.holds Try.pinned (OpenSpec.ofChange fnWordsSpec)

/-- ITS FALSE NEIGHBOUR: 'it returns false'. Refute it at one input. -/
def fnWordsWrong : ChangeSpec := { name := "fnWords", fn := fun _ => fun
  | [d1, d2, d3] => { results := [.lit (.bool false)], args := [d1, d2, d3] }
  | _ => none }
def FnWordsWrongFalsely : Prop := fnWordsRow.holds Try.pinned (OpenSpec.ofChange fnWordsWrong)

/-- 'laws.FnZero': WHATEVER THE INPUT: true; the input reads as it did. -/
def fnZeroSpec : ChangeSpec := { name := "fnZero", fn := fun _ => fun
  | [d] => { results := [.lit (.bool true)], args := [d] }
  | _ => none }
def fnZeroRow : OpenClaim := { program := "ytglfeoiakhnkgaa", sum := "1b6e596d15a82cf057619d695d480386d0b8ccfb9d2888139d6e1601a4fe5a97", func := "loop.example/pub-g03239/laws.FnZero", spec := "fnZero", inPlace := ["math/bits.Add64"], apart := false }
def FnZeroSaid : Prop := fnZeroRow.holds Try.pinned (OpenSpec.ofChange fnZeroSpec)

/-- ITS FALSE NEIGHBOUR: 'it returns false'. Refute it at one input. -/
def fnZeroWrong : ChangeSpec := { name := "fnZero", fn := fun _ => fun
  | [d] => { results := [.lit (.bool false)], args := [d] }
  | _ => none }
def FnZeroWrongFalsely : Prop := fnZeroRow.holds Try.pinned (OpenSpec.ofChange fnZeroWrong)

/-- 'laws.FnSeeded': WHATEVER THE INPUT: true; the input reads as it did. -/
def fnSeededSpec : ChangeSpec := { name := "fnSeeded", fn := fun _ => fun
  | [d1, d2, d3, d4, d5, d6] => { results := [.lit (.bool true)], args := [d1, d2, d3, d4, d5, d6] }
  | _ => none }
def fnSeededRow : OpenClaim := { program := "ytglfeoiakhnkgaa", sum := "1b6e596d15a82cf057619d695d480386d0b8ccfb9d2888139d6e1601a4fe5a97", func := "loop.example/pub-g03239/laws.FnSeeded", spec := "fnSeeded", inPlace := ["math/bits.Add64"], apart := false }
def FnSeededSaid : Prop := fnSeededRow.holds Try.pinned (OpenSpec.ofChange fnSeededSpec)

/-- ITS FALSE NEIGHBOUR: 'it returns false'. Refute it at one input. -/
def fnSeededWrong : ChangeSpec := { name := "fnSeeded", fn := fun _ => fun
  | [d1, d2, d3, d4, d5, d6] => { results := [.lit (.bool false)], args := [d1, d2, d3, d4, d5, d6] }
  | _ => none }
def FnSeededWrongFalsely : Prop := fnSeededRow.holds Try.pinned (OpenSpec.ofChange fnSeededWrong)

/-- 'laws.FnMarshal': WHATEVER THE INPUT: true; the input reads as it did. -/
def fnMarshalSpec : ChangeSpec := { name := "fnMarshal", fn := fun _ => fun
  | [d1, d2, d3] => { results := [.lit (.bool true)], args := [d1, d2, d3] }
  | _ => none }
def fnMarshalRow : OpenClaim := { program := "ytglfeoiakhnkgaa", sum := "1b6e596d15a82cf057619d695d480386d0b8ccfb9d2888139d6e1601a4fe5a97", func := "loop.example/pub-g03239/laws.FnMarshal", spec := "fnMarshal", inPlace := ["math/bits.Add64"], apart := false }
def FnMarshalSaid : Prop := fnMarshalRow.holds Try.pinned (OpenSpec.ofChange fnMarshalSpec)

/-- ITS FALSE NEIGHBOUR: 'it returns false'. Refute it at one input. -/
def fnMarshalWrong : ChangeSpec := { name := "fnMarshal", fn := fun _ => fun
  | [d1, d2, d3] => { results := [.lit (.bool false)], args := [d1, d2, d3] }
  | _ => none }
def FnMarshalWrongFalsely : Prop := fnMarshalRow.holds Try.pinned (OpenSpec.ofChange fnMarshalWrong)

/-- 'laws.FnAppend': WHATEVER THE INPUT: true; the input reads as it did. -/
def fnAppendSpec : ChangeSpec := { name := "fnAppend", fn := fun _ => fun
  | [d1, d2, d3] => { results := [.lit (.bool true)], args := [d1, d2, d3] }
  | _ => none }
def fnAppendRow : OpenClaim := { program := "ytglfeoiakhnkgaa", sum := "1b6e596d15a82cf057619d695d480386d0b8ccfb9d2888139d6e1601a4fe5a97", func := "loop.example/pub-g03239/laws.FnAppend", spec := "fnAppend", inPlace := ["math/bits.Add64"], apart := false }
def FnAppendSaid : Prop := fnAppendRow.holds Try.pinned (OpenSpec.ofChange fnAppendSpec)

/-- ITS FALSE NEIGHBOUR: 'it returns false'. Refute it at one input. -/
def fnAppendWrong : ChangeSpec := { name := "fnAppend", fn := fun _ => fun
  | [d1, d2, d3] => { results := [.lit (.bool false)], args := [d1, d2, d3] }
  | _ => none }
def FnAppendWrongFalsely : Prop := fnAppendRow.holds Try.pinned (OpenSpec.ofChange fnAppendWrong)

/- THE SECOND FORM. 'bulk': how many values and letters a reading holds, each counted each time it is reached (what is shared counts as often as it is met; a slice's spare places count too). A statement '..UptoSaid' is the law's where the arguments, and the package variables that the reading takes, are together of bulk at most 1048576: NARROWER than '..Said'. Prove '..Said' where nothing that the law and all that it calls make is longer than what came in: it says more and counts as full. Else prove '..UptoSaid'. A law counts once. -/
mutual
def uptoBulk {H : Type} : DataW H → Nat
  | .lit (.string bytes) => bytes.length + 1
  | .lit _ => 1
  | .nil => 1
  | .ptr d => uptoBulk d + 1
  | .slice elems spare => uptoBulkAll elems + uptoBulkAll spare + 1
  | .agg parts => uptoBulkAll parts + 1
  | .iface _ d => uptoBulk d + 1
  | .map entries => uptoBulkEntries entries + 1
  | .held _ => 1
def uptoBulkAll {H : Type} : List (DataW H) → Nat
  | [] => 0
  | d :: r => uptoBulk d + uptoBulkAll r
def uptoBulkEntries {H : Type} : List (Lit × DataW H) → Nat
  | [] => 0
  | x :: r => uptoBulkEntry x + uptoBulkEntries r
def uptoBulkEntry {H : Type} : Lit × DataW H → Nat
  | (.string bytes, d) => bytes.length + uptoBulk d + 1
  | (_, d) => uptoBulk d + 1
 end
def uptoSmall : (H : Type) → List (DataW H) → Bool := fun _ ds => decide (uptoBulkAll ds ≤ 1048576)
def OpenSpec.upto (s : _root_.Go.ChangeSpec) : _root_.Go.OpenSpec := { _root_.Go.OpenSpec.ofChange s with cond := some uptoSmall }

/-- 'laws.FnApart', WHERE WHAT IT READS IS OF BULK AT MOST 1048576: true; the input reads as it did. -/
def fnApartUptoRow : OpenClaim := { program := "ytglfeoiakhnkgaa", sum := "1b6e596d15a82cf057619d695d480386d0b8ccfb9d2888139d6e1601a4fe5a97", func := "loop.example/pub-g03239/laws.FnApart", spec := "fnApart", inPlace := ["math/bits.Add64"], apart := false, narrowed := true }
def FnApartUptoSaid : Prop := fnApartUptoRow.holds Try.pinned (OpenSpec.upto fnApartSpec)

/-- 'laws.FnNext', WHERE WHAT IT READS IS OF BULK AT MOST 1048576: true; the input reads as it did. -/
def fnNextUptoRow : OpenClaim := { program := "ytglfeoiakhnkgaa", sum := "1b6e596d15a82cf057619d695d480386d0b8ccfb9d2888139d6e1601a4fe5a97", func := "loop.example/pub-g03239/laws.FnNext", spec := "fnNext", inPlace := ["math/bits.Add64"], apart := false, narrowed := true }
def FnNextUptoSaid : Prop := fnNextUptoRow.holds Try.pinned (OpenSpec.upto fnNextSpec)

/-- 'laws.FnNextBack', WHERE WHAT IT READS IS OF BULK AT MOST 1048576: true; the input reads as it did. -/
def fnNextBackUptoRow : OpenClaim := { program := "ytglfeoiakhnkgaa", sum := "1b6e596d15a82cf057619d695d480386d0b8ccfb9d2888139d6e1601a4fe5a97", func := "loop.example/pub-g03239/laws.FnNextBack", spec := "fnNextBack", inPlace := ["math/bits.Add64"], apart := false, narrowed := true }
def FnNextBackUptoSaid : Prop := fnNextBackUptoRow.holds Try.pinned (OpenSpec.upto fnNextBackSpec)

/-- 'laws.FnNextOdd', WHERE WHAT IT READS IS OF BULK AT MOST 1048576: true; the input reads as it did. -/
def fnNextOddUptoRow : OpenClaim := { program := "ytglfeoiakhnkgaa", sum := "1b6e596d15a82cf057619d695d480386d0b8ccfb9d2888139d6e1601a4fe5a97", func := "loop.example/pub-g03239/laws.FnNextOdd", spec := "fnNextOdd", inPlace := ["math/bits.Add64"], apart := false, narrowed := true }
def FnNextOddUptoSaid : Prop := fnNextOddUptoRow.holds Try.pinned (OpenSpec.upto fnNextOddSpec)

/-- 'laws.FnStepSum', WHERE WHAT IT READS IS OF BULK AT MOST 1048576: true; the input reads as it did. -/
def fnStepSumUptoRow : OpenClaim := { program := "ytglfeoiakhnkgaa", sum := "1b6e596d15a82cf057619d695d480386d0b8ccfb9d2888139d6e1601a4fe5a97", func := "loop.example/pub-g03239/laws.FnStepSum", spec := "fnStepSum", inPlace := ["math/bits.Add64"], apart := false, narrowed := true }
def FnStepSumUptoSaid : Prop := fnStepSumUptoRow.holds Try.pinned (OpenSpec.upto fnStepSumSpec)

/-- 'laws.FnJump', WHERE WHAT IT READS IS OF BULK AT MOST 1048576: true; the input reads as it did. -/
def fnJumpUptoRow : OpenClaim := { program := "ytglfeoiakhnkgaa", sum := "1b6e596d15a82cf057619d695d480386d0b8ccfb9d2888139d6e1601a4fe5a97", func := "loop.example/pub-g03239/laws.FnJump", spec := "fnJump", inPlace := ["math/bits.Add64"], apart := false, narrowed := true }
def FnJumpUptoSaid : Prop := fnJumpUptoRow.holds Try.pinned (OpenSpec.upto fnJumpSpec)

/-- 'laws.FnPrefix', WHERE WHAT IT READS IS OF BULK AT MOST 1048576: true; the input reads as it did. -/
def fnPrefixUptoRow : OpenClaim := { program := "ytglfeoiakhnkgaa", sum := "1b6e596d15a82cf057619d695d480386d0b8ccfb9d2888139d6e1601a4fe5a97", func := "loop.example/pub-g03239/laws.FnPrefix", spec := "fnPrefix", inPlace := ["math/bits.Add64"], apart := false, narrowed := true }
def FnPrefixUptoSaid : Prop := fnPrefixUptoRow.holds Try.pinned (OpenSpec.upto fnPrefixSpec)

/-- 'laws.FnWords', WHERE WHAT IT READS IS OF BULK AT MOST 1048576: true; the input reads as it did. -/
def fnWordsUptoRow : OpenClaim := { program := "ytglfeoiakhnkgaa", sum := "1b6e596d15a82cf057619d695d480386d0b8ccfb9d2888139d6e1601a4fe5a97", func := "loop.example/pub-g03239/laws.FnWords", spec := "fnWords", inPlace := ["math/bits.Add64"], apart := false, narrowed := true }
def FnWordsUptoSaid : Prop := fnWordsUptoRow.holds Try.pinned (OpenSpec.upto fnWordsSpec)

/-- 'laws.FnZero', WHERE WHAT IT READS IS OF BULK AT MOST 1048576: true; the input reads as it did. -/
def fnZeroUptoRow : OpenClaim := { program := "ytglfeoiakhnkgaa", sum := "1b6e596d15a82cf057619d695d480386d0b8ccfb9d2888139d6e1601a4fe5a97", func := "loop.example/pub-g03239/laws.FnZero", spec := "fnZero", inPlace := ["math/bits.Add64"], apart := false, narrowed := true }
def FnZeroUptoSaid : Prop := fnZeroUptoRow.holds Try.pinned (OpenSpec.upto fnZeroSpec)

/-- 'laws.FnSeeded', WHERE WHAT IT READS IS OF BULK AT MOST 1048576: true; the input reads as it did. -/
def fnSeededUptoRow : OpenClaim := { program := "ytglfeoiakhnkgaa", sum := "1b6e596d15a82cf057619d695d480386d0b8ccfb9d2888139d6e1601a4fe5a97", func := "loop.example/pub-g03239/laws.FnSeeded", spec := "fnSeeded", inPlace := ["math/bits.Add64"], apart := false, narrowed := true }
def FnSeededUptoSaid : Prop := fnSeededUptoRow.holds Try.pinned (OpenSpec.upto fnSeededSpec)

/-- 'laws.FnMarshal', WHERE WHAT IT READS IS OF BULK AT MOST 1048576: true; the input reads as it did. -/
def fnMarshalUptoRow : OpenClaim := { program := "ytglfeoiakhnkgaa", sum := "1b6e596d15a82cf057619d695d480386d0b8ccfb9d2888139d6e1601a4fe5a97", func := "loop.example/pub-g03239/laws.FnMarshal", spec := "fnMarshal", inPlace := ["math/bits.Add64"], apart := false, narrowed := true }
def FnMarshalUptoSaid : Prop := fnMarshalUptoRow.holds Try.pinned (OpenSpec.upto fnMarshalSpec)

/-- 'laws.FnAppend', WHERE WHAT IT READS IS OF BULK AT MOST 1048576: true; the input reads as it did. -/
def fnAppendUptoRow : OpenClaim := { program := "ytglfeoiakhnkgaa", sum := "1b6e596d15a82cf057619d695d480386d0b8ccfb9d2888139d6e1601a4fe5a97", func := "loop.example/pub-g03239/laws.FnAppend", spec := "fnAppend", inPlace := ["math/bits.Add64"], apart := false, narrowed := true }
def FnAppendUptoSaid : Prop := fnAppendUptoRow.holds Try.pinned (OpenSpec.upto fnAppendSpec)

end Rows
end Go.Proofs.Ytglfeoiakhnkgaa
