/-
  NARROWER THAN 'FOR EVERY INPUT', by the rows' own cells (each row's printed sentence says how): FnUnmarshal: ifaces, laid · FnMarshalBack: ifaces, laid.
  DERIVED. THE GIVEN ROWS OF THIS SEAT. 2 by the template 'for every input the law returns true; each argument reads behind the call as it read before'; 0 by the template 'total and deterministic' (their statements: YtglfeoiakhnkgaaDoorTotals.lean).
  GIVEN WITH THE SEED: the statements are not yours to turn. If you find one false, say at which input.
  Laid BY PROGRAM, IN A SANDBOX (cutbox-rows.mjs): the forced cells as the released guide's own fill.sh prints them over the translation 7bb6076c97a11972… (all of the seat's roots in one cut). By AI agents, Wed Nov 11 2026. No macro, syntax, notation, axiom, sorry.
-/
import Derived.Test.YtglfeoiakhnkgaaDoorChecked
import GoSem.Claim
import GoSem.ClaimJoined
import GoSem.ClaimMapViews
import Derived.JoinedTies
import Derived.KernelRfl
namespace Go.Proofs.YtglfeoiakhnkgaaDoor
/- THE CELL 'sum', in the pinned program and in every row, IS THE sha256 OF THE DUMP (.gsa) THAT YtglfeoiakhnkgaaDoorProg.lean LOADS. Nothing in Lean hashes anything: it is a label: what it is worth is what the hold of that sum in a sandbox is worth. -/
noncomputable def Tryd.pinned : Pinned := { name := "ytglfeoiakhnkgaadoor", sum := "7bb6076c97a11972fd0660541f8cde96906ea1c7b7571056a10d36b0dbdf1128", checked := Tryd.checked }
namespace Rows
def none {H : Type} : Left H := { results := [], args := [] }

/- WHAT THE LISTED PACKAGE-LEVEL VARIABLES READ AS WHEN THE CALL BEGINS. Each datum BY PROGRAM (the guide's laid-datum.mjs) off the statement by which the dump's own 'gosem.cut.vars' lays the variable. In a bare row this is a premise. The card (YtglfeoiakhnkgaaDoorCards.lean) ties it to the program's text. -/
def laid_loop_example_pub_g03239_pub_randpcg_errUnmarshalPCG {H : Type} : DataW H := .iface "*errors.errorString" (.ptr (.agg [.lit (.string [105, 110, 118, 97, 108, 105, 100, 32, 80, 67, 71, 32, 101, 110, 99, 111, 100, 105, 110, 103])]))

/-- 'laws.FnUnmarshal': WHATEVER THE INPUT: true; the input reads as it did. -/
def fnUnmarshalSpec : ChangeSpec := { name := "fnUnmarshal", vars := ["loop.example/pub-g03239/pub/randpcg.errUnmarshalPCG"], fn := fun _ => fun
  | [d1, d2, d3, d4, g1] => { results := [.lit (.bool true)], args := [d1, d2, d3, d4], vars := [g1] }
  | _ => none }
def fnUnmarshalRow : OpenClaim := { program := "ytglfeoiakhnkgaadoor", sum := "7bb6076c97a11972fd0660541f8cde96906ea1c7b7571056a10d36b0dbdf1128", func := "loop.example/pub-g03239/laws.FnUnmarshal", spec := "fnUnmarshal", inPlace := ["math/bits.Add64"], named := ["loop.example/pub-g03239/pub/randpcg.errUnmarshalPCG"], ifaces := true, apart := false, laid := [("loop.example/pub-g03239/pub/randpcg.errUnmarshalPCG", laid_loop_example_pub_g03239_pub_randpcg_errUnmarshalPCG)] }
def FnUnmarshalSaid : Prop := fnUnmarshalRow.holds Tryd.pinned (OpenSpec.ofChange fnUnmarshalSpec)

/-- ITS FALSE NEIGHBOUR: 'it returns false'. Refute it at one input. -/
def fnUnmarshalWrong : ChangeSpec := { name := "fnUnmarshal", vars := ["loop.example/pub-g03239/pub/randpcg.errUnmarshalPCG"], fn := fun _ => fun
  | [d1, d2, d3, d4, g1] => { results := [.lit (.bool false)], args := [d1, d2, d3, d4], vars := [g1] }
  | _ => none }
def FnUnmarshalWrongFalsely : Prop := fnUnmarshalRow.holds Tryd.pinned (OpenSpec.ofChange fnUnmarshalWrong)

/-- 'laws.FnMarshalBack': WHATEVER THE INPUT: true; the input reads as it did. -/
def fnMarshalBackSpec : ChangeSpec := { name := "fnMarshalBack", vars := ["loop.example/pub-g03239/pub/randpcg.errUnmarshalPCG"], fn := fun _ => fun
  | [d1, d2, d3, d4, d5, d6, g1] => { results := [.lit (.bool true)], args := [d1, d2, d3, d4, d5, d6], vars := [g1] }
  | _ => none }
def fnMarshalBackRow : OpenClaim := { program := "ytglfeoiakhnkgaadoor", sum := "7bb6076c97a11972fd0660541f8cde96906ea1c7b7571056a10d36b0dbdf1128", func := "loop.example/pub-g03239/laws.FnMarshalBack", spec := "fnMarshalBack", inPlace := ["math/bits.Add64"], named := ["loop.example/pub-g03239/pub/randpcg.errUnmarshalPCG"], ifaces := true, apart := false, laid := [("loop.example/pub-g03239/pub/randpcg.errUnmarshalPCG", laid_loop_example_pub_g03239_pub_randpcg_errUnmarshalPCG)] }
def FnMarshalBackSaid : Prop := fnMarshalBackRow.holds Tryd.pinned (OpenSpec.ofChange fnMarshalBackSpec)

/-- ITS FALSE NEIGHBOUR: 'it returns false'. Refute it at one input. -/
def fnMarshalBackWrong : ChangeSpec := { name := "fnMarshalBack", vars := ["loop.example/pub-g03239/pub/randpcg.errUnmarshalPCG"], fn := fun _ => fun
  | [d1, d2, d3, d4, d5, d6, g1] => { results := [.lit (.bool false)], args := [d1, d2, d3, d4, d5, d6], vars := [g1] }
  | _ => none }
def FnMarshalBackWrongFalsely : Prop := fnMarshalBackRow.holds Tryd.pinned (OpenSpec.ofChange fnMarshalBackWrong)

/- THE SECOND FORM. 'bulk': how many values and letters a reading holds, each counted each time it is reached (what is shared counts as often as it is met; a slice's spare places count too). A statement '..UptoSaid' is the law's where the arguments, and the package variables that the reading takes, are together of bulk at most 1048576: NARROWER than '..Said'. Prove '..Said' where nothing that the law and all that it calls make is longer than what came in: it says more and counts as full. Else prove '..UptoSaid'. A law counts once. -/
mutual
def uptoBulk {H : Type} : DataW H → Nat
  | .lit (.string bytes) => bytes.length + 1
  | .lit _ => 1
  | .nil => 1
  | .ptr d => uptoBulk d + 1
  | .slice elems spare => uptoBulkAll elems + uptoBulkAll spare + 1
  | .agg parts => uptoBulkAll parts + 1
  | .iface _ d => uptoBulk d + 1
  | .map entries => uptoBulkEntries entries + 1
  | .held _ => 1
def uptoBulkAll {H : Type} : List (DataW H) → Nat
  | [] => 0
  | d :: r => uptoBulk d + uptoBulkAll r
def uptoBulkEntries {H : Type} : List (Lit × DataW H) → Nat
  | [] => 0
  | x :: r => uptoBulkEntry x + uptoBulkEntries r
def uptoBulkEntry {H : Type} : Lit × DataW H → Nat
  | (.string bytes, d) => bytes.length + uptoBulk d + 1
  | (_, d) => uptoBulk d + 1
 end
def uptoSmall : (H : Type) → List (DataW H) → Bool := fun _ ds => decide (uptoBulkAll ds ≤ 1048576)
def OpenSpec.upto (s : _root_.Go.ChangeSpec) : _root_.Go.OpenSpec := { _root_.Go.OpenSpec.ofChange s with cond := some uptoSmall }

/-- 'laws.FnUnmarshal', WHERE WHAT IT READS IS OF BULK AT MOST 1048576: true; the input reads as it did. -/
def fnUnmarshalUptoRow : OpenClaim := { program := "ytglfeoiakhnkgaadoor", sum := "7bb6076c97a11972fd0660541f8cde96906ea1c7b7571056a10d36b0dbdf1128", func := "loop.example/pub-g03239/laws.FnUnmarshal", spec := "fnUnmarshal", inPlace := ["math/bits.Add64"], named := ["loop.example/pub-g03239/pub/randpcg.errUnmarshalPCG"], ifaces := true, apart := false, laid := [("loop.example/pub-g03239/pub/randpcg.errUnmarshalPCG", laid_loop_example_pub_g03239_pub_randpcg_errUnmarshalPCG)], narrowed := true }
def FnUnmarshalUptoSaid : Prop := fnUnmarshalUptoRow.holds Tryd.pinned (OpenSpec.upto fnUnmarshalSpec)

/-- 'laws.FnMarshalBack', WHERE WHAT IT READS IS OF BULK AT MOST 1048576: true; the input reads as it did. -/
def fnMarshalBackUptoRow : OpenClaim := { program := "ytglfeoiakhnkgaadoor", sum := "7bb6076c97a11972fd0660541f8cde96906ea1c7b7571056a10d36b0dbdf1128", func := "loop.example/pub-g03239/laws.FnMarshalBack", spec := "fnMarshalBack", inPlace := ["math/bits.Add64"], named := ["loop.example/pub-g03239/pub/randpcg.errUnmarshalPCG"], ifaces := true, apart := false, laid := [("loop.example/pub-g03239/pub/randpcg.errUnmarshalPCG", laid_loop_example_pub_g03239_pub_randpcg_errUnmarshalPCG)], narrowed := true }
def FnMarshalBackUptoSaid : Prop := fnMarshalBackUptoRow.holds Tryd.pinned (OpenSpec.upto fnMarshalBackSpec)

end Rows
end Go.Proofs.YtglfeoiakhnkgaaDoor
