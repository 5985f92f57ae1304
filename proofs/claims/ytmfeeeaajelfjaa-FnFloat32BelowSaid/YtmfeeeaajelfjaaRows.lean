/-
  No cell of these rows narrows 'for every input' (looked for: loops, veiled, ifaces, maps, wideKeys, modest, calm, conditions, laid).
  DERIVED. THE GIVEN ROWS OF THIS SEAT. 12 by the template 'for every input the law returns true; each argument reads behind the call as it read before'; 0 by the template 'total and deterministic' (their statements: YtmfeeeaajelfjaaTotals.lean).
  GIVEN WITH THE SEED: the statements are not yours to turn. If you find one false, say at which input.
  Laid BY PROGRAM, IN A SANDBOX (cutbox-rows.mjs): the forced cells as the released guide's own fill.sh prints them over the translation ddf4579c083e40a4… (all of the seat's roots in one cut). By AI agents, Wed Nov 11 2026. No macro, syntax, notation, axiom, sorry.
-/
import Derived.Test.YtmfeeeaajelfjaaChecked
import GoSem.Claim
import GoSem.ClaimJoined
import GoSem.ClaimMapViews
import Derived.JoinedTies
import Derived.KernelRfl
namespace Go.Proofs.Ytmfeeeaajelfjaa
/- THE CELL 'sum', in the pinned program and in every row, IS THE sha256 OF THE DUMP (.gsa) THAT YtmfeeeaajelfjaaProg.lean LOADS. Nothing in Lean hashes anything: it is a label: what it is worth is what the hold of that sum in a sandbox is worth. -/
noncomputable def Try.pinned : Pinned := { name := "ytmfeeeaajelfjaa", sum := "ddf4579c083e40a41425cbcbefd7503f124cc4907a52853f5ab4fa590ef4d80d", checked := Try.checked }
namespace Rows
def none {H : Type} : Left H := { results := [], args := [] }

/-- 'laws.FnInt32': WHATEVER THE INPUT: true; the input reads as it did. -/
def fnInt32Spec : ChangeSpec := { name := "fnInt32", fn := fun _ => fun
  | [d] => { results := [.lit (.bool true)], args := [d] }
  | _ => none }
def fnInt32Row : OpenClaim := { program := "ytmfeeeaajelfjaa", sum := "ddf4579c083e40a41425cbcbefd7503f124cc4907a52853f5ab4fa590ef4d80d", func := "loop.example/pub-g03239/laws.FnInt32", spec := "fnInt32", unfollowed := true, recurses := true, apart := false }
def FnInt32Said : Prop := fnInt32Row.holds Try.pinned (OpenSpec.ofChange fnInt32Spec)

/-- ITS FALSE NEIGHBOUR: 'it returns false'. Refute it at one input. -/
def fnInt32Wrong : ChangeSpec := { name := "fnInt32", fn := fun _ => fun
  | [d] => { results := [.lit (.bool false)], args := [d] }
  | _ => none }
def FnInt32WrongFalsely : Prop := fnInt32Row.holds Try.pinned (OpenSpec.ofChange fnInt32Wrong)

/-- 'laws.FnSigned': WHATEVER THE INPUT: true; the input reads as it did. -/
def fnSignedSpec : ChangeSpec := { name := "fnSigned", fn := fun _ => fun
  | [d1, d2] => { results := [.lit (.bool true)], args := [d1, d2] }
  | _ => none }
def fnSignedRow : OpenClaim := { program := "ytmfeeeaajelfjaa", sum := "ddf4579c083e40a41425cbcbefd7503f124cc4907a52853f5ab4fa590ef4d80d", func := "loop.example/pub-g03239/laws.FnSigned", spec := "fnSigned", unfollowed := true, recurses := true, apart := false }
def FnSignedSaid : Prop := fnSignedRow.holds Try.pinned (OpenSpec.ofChange fnSignedSpec)

/-- ITS FALSE NEIGHBOUR: 'it returns false'. Refute it at one input. -/
def fnSignedWrong : ChangeSpec := { name := "fnSigned", fn := fun _ => fun
  | [d1, d2] => { results := [.lit (.bool false)], args := [d1, d2] }
  | _ => none }
def FnSignedWrongFalsely : Prop := fnSignedRow.holds Try.pinned (OpenSpec.ofChange fnSignedWrong)

/-- 'laws.FnUint32': WHATEVER THE INPUT: true; the input reads as it did. -/
def fnUint32Spec : ChangeSpec := { name := "fnUint32", fn := fun _ => fun
  | [d] => { results := [.lit (.bool true)], args := [d] }
  | _ => none }
def fnUint32Row : OpenClaim := { program := "ytmfeeeaajelfjaa", sum := "ddf4579c083e40a41425cbcbefd7503f124cc4907a52853f5ab4fa590ef4d80d", func := "loop.example/pub-g03239/laws.FnUint32", spec := "fnUint32", unfollowed := true, recurses := true, apart := false }
def FnUint32Said : Prop := fnUint32Row.holds Try.pinned (OpenSpec.ofChange fnUint32Spec)

/-- ITS FALSE NEIGHBOUR: 'it returns false'. Refute it at one input. -/
def fnUint32Wrong : ChangeSpec := { name := "fnUint32", fn := fun _ => fun
  | [d] => { results := [.lit (.bool false)], args := [d] }
  | _ => none }
def FnUint32WrongFalsely : Prop := fnUint32Row.holds Try.pinned (OpenSpec.ofChange fnUint32Wrong)

/-- 'laws.FnFloat64': WHATEVER THE INPUT: true; the input reads as it did. -/
def fnFloat64Spec : ChangeSpec := { name := "fnFloat64", fn := fun _ => fun
  | [d] => { results := [.lit (.bool true)], args := [d] }
  | _ => none }
def fnFloat64Row : OpenClaim := { program := "ytmfeeeaajelfjaa", sum := "ddf4579c083e40a41425cbcbefd7503f124cc4907a52853f5ab4fa590ef4d80d", func := "loop.example/pub-g03239/laws.FnFloat64", spec := "fnFloat64", inPlace := ["math.Float64bits"], unfollowed := true, recurses := true, apart := false }
def FnFloat64Said : Prop := fnFloat64Row.holds Try.pinned (OpenSpec.ofChange fnFloat64Spec)

/-- ITS FALSE NEIGHBOUR: 'it returns false'. Refute it at one input. -/
def fnFloat64Wrong : ChangeSpec := { name := "fnFloat64", fn := fun _ => fun
  | [d] => { results := [.lit (.bool false)], args := [d] }
  | _ => none }
def FnFloat64WrongFalsely : Prop := fnFloat64Row.holds Try.pinned (OpenSpec.ofChange fnFloat64Wrong)

/-- 'laws.FnUint64': WHATEVER THE INPUT: true; the input reads as it did. -/
def fnUint64Spec : ChangeSpec := { name := "fnUint64", fn := fun _ => fun
  | [d] => { results := [.lit (.bool true)], args := [d] }
  | _ => none }
def fnUint64Row : OpenClaim := { program := "ytmfeeeaajelfjaa", sum := "ddf4579c083e40a41425cbcbefd7503f124cc4907a52853f5ab4fa590ef4d80d", func := "loop.example/pub-g03239/laws.FnUint64", spec := "fnUint64", unfollowed := true, recurses := true, apart := false }
def FnUint64Said : Prop := fnUint64Row.holds Try.pinned (OpenSpec.ofChange fnUint64Spec)

/-- ITS FALSE NEIGHBOUR: 'it returns false'. Refute it at one input. -/
def fnUint64Wrong : ChangeSpec := { name := "fnUint64", fn := fun _ => fun
  | [d] => { results := [.lit (.bool false)], args := [d] }
  | _ => none }
def FnUint64WrongFalsely : Prop := fnUint64Row.holds Try.pinned (OpenSpec.ofChange fnUint64Wrong)

/-- 'laws.FnFloat32': WHATEVER THE INPUT: true; the input reads as it did. -/
def fnFloat32Spec : ChangeSpec := { name := "fnFloat32", fn := fun _ => fun
  | [d] => { results := [.lit (.bool true)], args := [d] }
  | _ => none }
def fnFloat32Row : OpenClaim := { program := "ytmfeeeaajelfjaa", sum := "ddf4579c083e40a41425cbcbefd7503f124cc4907a52853f5ab4fa590ef4d80d", func := "loop.example/pub-g03239/laws.FnFloat32", spec := "fnFloat32", inPlace := ["math.Float32bits"], unfollowed := true, recurses := true, apart := false }
def FnFloat32Said : Prop := fnFloat32Row.holds Try.pinned (OpenSpec.ofChange fnFloat32Spec)

/-- ITS FALSE NEIGHBOUR: 'it returns false'. Refute it at one input. -/
def fnFloat32Wrong : ChangeSpec := { name := "fnFloat32", fn := fun _ => fun
  | [d] => { results := [.lit (.bool false)], args := [d] }
  | _ => none }
def FnFloat32WrongFalsely : Prop := fnFloat32Row.holds Try.pinned (OpenSpec.ofChange fnFloat32Wrong)

/-- 'laws.FnFloat64Below': WHATEVER THE INPUT: true; the input reads as it did. -/
def fnFloat64BelowSpec : ChangeSpec := { name := "fnFloat64Below", fn := fun _ => fun
  | [d] => { results := [.lit (.bool true)], args := [d] }
  | _ => none }
def fnFloat64BelowRow : OpenClaim := { program := "ytmfeeeaajelfjaa", sum := "ddf4579c083e40a41425cbcbefd7503f124cc4907a52853f5ab4fa590ef4d80d", func := "loop.example/pub-g03239/laws.FnFloat64Below", spec := "fnFloat64Below", inPlace := ["math.Float64bits", "math.Float64frombits"], unfollowed := true, recurses := true, apart := false }
def FnFloat64BelowSaid : Prop := fnFloat64BelowRow.holds Try.pinned (OpenSpec.ofChange fnFloat64BelowSpec)

/-- ITS FALSE NEIGHBOUR: 'it returns false'. Refute it at one input. -/
def fnFloat64BelowWrong : ChangeSpec := { name := "fnFloat64Below", fn := fun _ => fun
  | [d] => { results := [.lit (.bool false)], args := [d] }
  | _ => none }
def FnFloat64BelowWrongFalsely : Prop := fnFloat64BelowRow.holds Try.pinned (OpenSpec.ofChange fnFloat64BelowWrong)

/-- 'laws.FnInt64': WHATEVER THE INPUT: true; the input reads as it did. -/
def fnInt64Spec : ChangeSpec := { name := "fnInt64", fn := fun _ => fun
  | [d] => { results := [.lit (.bool true)], args := [d] }
  | _ => none }
def fnInt64Row : OpenClaim := { program := "ytmfeeeaajelfjaa", sum := "ddf4579c083e40a41425cbcbefd7503f124cc4907a52853f5ab4fa590ef4d80d", func := "loop.example/pub-g03239/laws.FnInt64", spec := "fnInt64", unfollowed := true, recurses := true, apart := false }
def FnInt64Said : Prop := fnInt64Row.holds Try.pinned (OpenSpec.ofChange fnInt64Spec)

/-- ITS FALSE NEIGHBOUR: 'it returns false'. Refute it at one input. -/
def fnInt64Wrong : ChangeSpec := { name := "fnInt64", fn := fun _ => fun
  | [d] => { results := [.lit (.bool false)], args := [d] }
  | _ => none }
def FnInt64WrongFalsely : Prop := fnInt64Row.holds Try.pinned (OpenSpec.ofChange fnInt64Wrong)

/-- 'laws.FnFloat32Below': WHATEVER THE INPUT: true; the input reads as it did. -/
def fnFloat32BelowSpec : ChangeSpec := { name := "fnFloat32Below", fn := fun _ => fun
  | [d] => { results := [.lit (.bool true)], args := [d] }
  | _ => none }
def fnFloat32BelowRow : OpenClaim := { program := "ytmfeeeaajelfjaa", sum := "ddf4579c083e40a41425cbcbefd7503f124cc4907a52853f5ab4fa590ef4d80d", func := "loop.example/pub-g03239/laws.FnFloat32Below", spec := "fnFloat32Below", inPlace := ["math.Float32bits", "math.Float32frombits"], unfollowed := true, recurses := true, apart := false }
def FnFloat32BelowSaid : Prop := fnFloat32BelowRow.holds Try.pinned (OpenSpec.ofChange fnFloat32BelowSpec)

/-- ITS FALSE NEIGHBOUR: 'it returns false'. Refute it at one input. -/
def fnFloat32BelowWrong : ChangeSpec := { name := "fnFloat32Below", fn := fun _ => fun
  | [d] => { results := [.lit (.bool false)], args := [d] }
  | _ => none }
def FnFloat32BelowWrongFalsely : Prop := fnFloat32BelowRow.holds Try.pinned (OpenSpec.ofChange fnFloat32BelowWrong)

/-- 'laws.FnOneOf': WHATEVER THE INPUT: true; the input reads as it did. -/
def fnOneOfSpec : ChangeSpec := { name := "fnOneOf", fn := fun _ => fun
  | [d] => { results := [.lit (.bool true)], args := [d] }
  | _ => none }
def fnOneOfRow : OpenClaim := { program := "ytmfeeeaajelfjaa", sum := "ddf4579c083e40a41425cbcbefd7503f124cc4907a52853f5ab4fa590ef4d80d", func := "loop.example/pub-g03239/laws.FnOneOf", spec := "fnOneOf", unfollowed := true, recurses := true, apart := false }
def FnOneOfSaid : Prop := fnOneOfRow.holds Try.pinned (OpenSpec.ofChange fnOneOfSpec)

/-- ITS FALSE NEIGHBOUR: 'it returns false'. Refute it at one input. -/
def fnOneOfWrong : ChangeSpec := { name := "fnOneOf", fn := fun _ => fun
  | [d] => { results := [.lit (.bool false)], args := [d] }
  | _ => none }
def FnOneOfWrongFalsely : Prop := fnOneOfRow.holds Try.pinned (OpenSpec.ofChange fnOneOfWrong)

/-- 'laws.FnSigned32': WHATEVER THE INPUT: true; the input reads as it did. -/
def fnSigned32Spec : ChangeSpec := { name := "fnSigned32", fn := fun _ => fun
  | [d1, d2] => { results := [.lit (.bool true)], args := [d1, d2] }
  | _ => none }
def fnSigned32Row : OpenClaim := { program := "ytmfeeeaajelfjaa", sum := "ddf4579c083e40a41425cbcbefd7503f124cc4907a52853f5ab4fa590ef4d80d", func := "loop.example/pub-g03239/laws.FnSigned32", spec := "fnSigned32", unfollowed := true, recurses := true, apart := false }
def FnSigned32Said : Prop := fnSigned32Row.holds Try.pinned (OpenSpec.ofChange fnSigned32Spec)

/-- ITS FALSE NEIGHBOUR: 'it returns false'. Refute it at one input. -/
def fnSigned32Wrong : ChangeSpec := { name := "fnSigned32", fn := fun _ => fun
  | [d1, d2] => { results := [.lit (.bool false)], args := [d1, d2] }
  | _ => none }
def FnSigned32WrongFalsely : Prop := fnSigned32Row.holds Try.pinned (OpenSpec.ofChange fnSigned32Wrong)

/-- 'laws.FnNarrow': WHATEVER THE INPUT: true; the input reads as it did. -/
def fnNarrowSpec : ChangeSpec := { name := "fnNarrow", fn := fun _ => fun
  | [d1, d2, d3] => { results := [.lit (.bool true)], args := [d1, d2, d3] }
  | _ => none }
def fnNarrowRow : OpenClaim := { program := "ytmfeeeaajelfjaa", sum := "ddf4579c083e40a41425cbcbefd7503f124cc4907a52853f5ab4fa590ef4d80d", func := "loop.example/pub-g03239/laws.FnNarrow", spec := "fnNarrow", unfollowed := true, recurses := true, apart := false }
def FnNarrowSaid : Prop := fnNarrowRow.holds Try.pinned (OpenSpec.ofChange fnNarrowSpec)

/-- ITS FALSE NEIGHBOUR: 'it returns false'. Refute it at one input. -/
def fnNarrowWrong : ChangeSpec := { name := "fnNarrow", fn := fun _ => fun
  | [d1, d2, d3] => { results := [.lit (.bool false)], args := [d1, d2, d3] }
  | _ => none }
def FnNarrowWrongFalsely : Prop := fnNarrowRow.holds Try.pinned (OpenSpec.ofChange fnNarrowWrong)

/- THE SECOND FORM. 'bulk': how many values and letters a reading holds, each counted each time it is reached (what is shared counts as often as it is met; a slice's spare places count too). A statement '..UptoSaid' is the law's where the arguments, and the package variables that the reading takes, are together of bulk at most 1048576: NARROWER than '..Said'. Prove '..Said' where nothing that the law and all that it calls make is longer than what came in: it says more and counts as full. Else prove '..UptoSaid'. A law counts once. -/
mutual
def uptoBulk {H : Type} : DataW H → Nat
  | .lit (.string bytes) => bytes.length + 1
  | .lit _ => 1
  | .nil => 1
  | .ptr d => uptoBulk d + 1
  | .slice elems spare => uptoBulkAll elems + uptoBulkAll spare + 1
  | .agg parts => uptoBulkAll parts + 1
  | .iface _ d => uptoBulk d + 1
  | .map entries => uptoBulkEntries entries + 1
  | .held _ => 1
def uptoBulkAll {H : Type} : List (DataW H) → Nat
  | [] => 0
  | d :: r => uptoBulk d + uptoBulkAll r
def uptoBulkEntries {H : Type} : List (Lit × DataW H) → Nat
  | [] => 0
  | x :: r => uptoBulkEntry x + uptoBulkEntries r
def uptoBulkEntry {H : Type} : Lit × DataW H → Nat
  | (.string bytes, d) => bytes.length + uptoBulk d + 1
  | (_, d) => uptoBulk d + 1
 end
def uptoSmall : (H : Type) → List (DataW H) → Bool := fun _ ds => decide (uptoBulkAll ds ≤ 1048576)
def OpenSpec.upto (s : _root_.Go.ChangeSpec) : _root_.Go.OpenSpec := { _root_.Go.OpenSpec.ofChange s with cond := some uptoSmall }

/-- 'laws.FnInt32', WHERE WHAT IT READS IS OF BULK AT MOST 1048576: true; the input reads as it did. -/
def fnInt32UptoRow : OpenClaim := { program := "ytmfeeeaajelfjaa", sum := "ddf4579c083e40a41425cbcbefd7503f124cc4907a52853f5ab4fa590ef4d80d", func := "loop.example/pub-g03239/laws.FnInt32", spec := "fnInt32", unfollowed := true, recurses := true, apart := false, narrowed := true }
def FnInt32UptoSaid : Prop := fnInt32UptoRow.holds Try.pinned (OpenSpec.upto fnInt32Spec)

/-- 'laws.FnSigned', WHERE WHAT IT READS IS OF BULK AT MOST 1048576: true; the input reads as it did. -/
def fnSignedUptoRow : OpenClaim := { program := "ytmfeeeaajelfjaa", sum := "ddf4579c083e40a41425cbcbefd7503f124cc4907a52853f5ab4fa590ef4d80d", func := "loop.example/pub-g03239/laws.FnSigned", spec := "fnSigned", unfollowed := true, recurses := true, apart := false, narrowed := true }
def FnSignedUptoSaid : Prop := fnSignedUptoRow.holds Try.pinned (OpenSpec.upto fnSignedSpec)

/-- 'laws.FnUint32', WHERE WHAT IT READS IS OF BULK AT MOST 1048576: true; the input reads as it did. -/
def fnUint32UptoRow : OpenClaim := { program := "ytmfeeeaajelfjaa", sum := "ddf4579c083e40a41425cbcbefd7503f124cc4907a52853f5ab4fa590ef4d80d", func := "loop.example/pub-g03239/laws.FnUint32", spec := "fnUint32", unfollowed := true, recurses := true, apart := false, narrowed := true }
def FnUint32UptoSaid : Prop := fnUint32UptoRow.holds Try.pinned (OpenSpec.upto fnUint32Spec)

/-- 'laws.FnFloat64', WHERE WHAT IT READS IS OF BULK AT MOST 1048576: true; the input reads as it did. -/
def fnFloat64UptoRow : OpenClaim := { program := "ytmfeeeaajelfjaa", sum := "ddf4579c083e40a41425cbcbefd7503f124cc4907a52853f5ab4fa590ef4d80d", func := "loop.example/pub-g03239/laws.FnFloat64", spec := "fnFloat64", inPlace := ["math.Float64bits"], unfollowed := true, recurses := true, apart := false, narrowed := true }
def FnFloat64UptoSaid : Prop := fnFloat64UptoRow.holds Try.pinned (OpenSpec.upto fnFloat64Spec)

/-- 'laws.FnUint64', WHERE WHAT IT READS IS OF BULK AT MOST 1048576: true; the input reads as it did. -/
def fnUint64UptoRow : OpenClaim := { program := "ytmfeeeaajelfjaa", sum := "ddf4579c083e40a41425cbcbefd7503f124cc4907a52853f5ab4fa590ef4d80d", func := "loop.example/pub-g03239/laws.FnUint64", spec := "fnUint64", unfollowed := true, recurses := true, apart := false, narrowed := true }
def FnUint64UptoSaid : Prop := fnUint64UptoRow.holds Try.pinned (OpenSpec.upto fnUint64Spec)

/-- 'laws.FnFloat32', WHERE WHAT IT READS IS OF BULK AT MOST 1048576: true; the input reads as it did. -/
def fnFloat32UptoRow : OpenClaim := { program := "ytmfeeeaajelfjaa", sum := "ddf4579c083e40a41425cbcbefd7503f124cc4907a52853f5ab4fa590ef4d80d", func := "loop.example/pub-g03239/laws.FnFloat32", spec := "fnFloat32", inPlace := ["math.Float32bits"], unfollowed := true, recurses := true, apart := false, narrowed := true }
def FnFloat32UptoSaid : Prop := fnFloat32UptoRow.holds Try.pinned (OpenSpec.upto fnFloat32Spec)

/-- 'laws.FnFloat64Below', WHERE WHAT IT READS IS OF BULK AT MOST 1048576: true; the input reads as it did. -/
def fnFloat64BelowUptoRow : OpenClaim := { program := "ytmfeeeaajelfjaa", sum := "ddf4579c083e40a41425cbcbefd7503f124cc4907a52853f5ab4fa590ef4d80d", func := "loop.example/pub-g03239/laws.FnFloat64Below", spec := "fnFloat64Below", inPlace := ["math.Float64bits", "math.Float64frombits"], unfollowed := true, recurses := true, apart := false, narrowed := true }
def FnFloat64BelowUptoSaid : Prop := fnFloat64BelowUptoRow.holds Try.pinned (OpenSpec.upto fnFloat64BelowSpec)

/-- 'laws.FnInt64', WHERE WHAT IT READS IS OF BULK AT MOST 1048576: true; the input reads as it did. -/
def fnInt64UptoRow : OpenClaim := { program := "ytmfeeeaajelfjaa", sum := "ddf4579c083e40a41425cbcbefd7503f124cc4907a52853f5ab4fa590ef4d80d", func := "loop.example/pub-g03239/laws.FnInt64", spec := "fnInt64", unfollowed := true, recurses := true, apart := false, narrowed := true }
def FnInt64UptoSaid : Prop := fnInt64UptoRow.holds Try.pinned (OpenSpec.upto fnInt64Spec)

/-- 'laws.FnFloat32Below', WHERE WHAT IT READS IS OF BULK AT MOST 1048576: true; the input reads as it did. -/
def fnFloat32BelowUptoRow : OpenClaim := { program := "ytmfeeeaajelfjaa", sum := "ddf4579c083e40a41425cbcbefd7503f124cc4907a52853f5ab4fa590ef4d80d", func := "loop.example/pub-g03239/laws.FnFloat32Below", spec := "fnFloat32Below", inPlace := ["math.Float32bits", "math.Float32frombits"], unfollowed := true, recurses := true, apart := false, narrowed := true }
def FnFloat32BelowUptoSaid : Prop := fnFloat32BelowUptoRow.holds Try.pinned (OpenSpec.upto fnFloat32BelowSpec)

/-- 'laws.FnOneOf', WHERE WHAT IT READS IS OF BULK AT MOST 1048576: true; the input reads as it did. -/
def fnOneOfUptoRow : OpenClaim := { program := "ytmfeeeaajelfjaa", sum := "ddf4579c083e40a41425cbcbefd7503f124cc4907a52853f5ab4fa590ef4d80d", func := "loop.example/pub-g03239/laws.FnOneOf", spec := "fnOneOf", unfollowed := true, recurses := true, apart := false, narrowed := true }
def FnOneOfUptoSaid : Prop := fnOneOfUptoRow.holds Try.pinned (OpenSpec.upto fnOneOfSpec)

/-- 'laws.FnSigned32', WHERE WHAT IT READS IS OF BULK AT MOST 1048576: true; the input reads as it did. -/
def fnSigned32UptoRow : OpenClaim := { program := "ytmfeeeaajelfjaa", sum := "ddf4579c083e40a41425cbcbefd7503f124cc4907a52853f5ab4fa590ef4d80d", func := "loop.example/pub-g03239/laws.FnSigned32", spec := "fnSigned32", unfollowed := true, recurses := true, apart := false, narrowed := true }
def FnSigned32UptoSaid : Prop := fnSigned32UptoRow.holds Try.pinned (OpenSpec.upto fnSigned32Spec)

/-- 'laws.FnNarrow', WHERE WHAT IT READS IS OF BULK AT MOST 1048576: true; the input reads as it did. -/
def fnNarrowUptoRow : OpenClaim := { program := "ytmfeeeaajelfjaa", sum := "ddf4579c083e40a41425cbcbefd7503f124cc4907a52853f5ab4fa590ef4d80d", func := "loop.example/pub-g03239/laws.FnNarrow", spec := "fnNarrow", unfollowed := true, recurses := true, apart := false, narrowed := true }
def FnNarrowUptoSaid : Prop := fnNarrowUptoRow.holds Try.pinned (OpenSpec.upto fnNarrowSpec)

end Rows
end Go.Proofs.Ytmfeeeaajelfjaa
