/-
  No cell of these rows narrows 'for every input' (looked for: loops, veiled, ifaces, maps, wideKeys, modest, calm, conditions, laid).
  DERIVED. THE GIVEN ROWS OF THIS SEAT. 10 by the template 'for every input the law returns true; each argument reads behind the call as it read before'; 0 by the template 'total and deterministic' (their statements: YtdailbjipfbdfaaTotals.lean).
  GIVEN WITH THE SEED: the statements are not yours to turn. If you find one false, say at which input.
  Laid BY PROGRAM, IN A SANDBOX (cutbox-rows.mjs): the forced cells as the released guide's own fill.sh prints them over the translation 06710473ad7d0607… (all of the seat's roots in one cut). By AI agents, Wed Nov 11 2026. No macro, syntax, notation, axiom, sorry.
-/
import Derived.Test.YtdailbjipfbdfaaChecked
import GoSem.Claim
import GoSem.ClaimJoined
import GoSem.ClaimMapViews
import Derived.JoinedTies
import Derived.KernelRfl
namespace Go.Proofs.Ytdailbjipfbdfaa
/- THE CELL 'sum', in the pinned program and in every row, IS THE sha256 OF THE DUMP (.gsa) THAT YtdailbjipfbdfaaProg.lean LOADS. Nothing in Lean hashes anything: it is a label: what it is worth is what the hold of that sum in a sandbox is worth. -/
noncomputable def Try.pinned : Pinned := { name := "ytdailbjipfbdfaa", sum := "06710473ad7d060702345249c3a6387ed7064f191d84f501216a82c8df4e824f", checked := Try.checked }
namespace Rows
def none {H : Type} : Left H := { results := [], args := [] }

/-- 'laws.FnPermOnce': WHATEVER THE INPUT: true; the input reads as it did. -/
def fnPermOnceSpec : ChangeSpec := { name := "fnPermOnce", fn := fun _ => fun
  | [d1, d2] => { results := [.lit (.bool true)], args := [d1, d2] }
  | _ => none }
def fnPermOnceRow : OpenClaim := { program := "ytdailbjipfbdfaa", sum := "06710473ad7d060702345249c3a6387ed7064f191d84f501216a82c8df4e824f", func := "loop.example/pub-g03239/laws.FnPermOnce", spec := "fnPermOnce", unfollowed := true, recurses := true, apart := false }
def FnPermOnceSaid : Prop := fnPermOnceRow.holds Try.pinned (OpenSpec.ofChange fnPermOnceSpec)

/-- ITS FALSE NEIGHBOUR: 'it returns false'. Refute it at one input. -/
def fnPermOnceWrong : ChangeSpec := { name := "fnPermOnce", fn := fun _ => fun
  | [d1, d2] => { results := [.lit (.bool false)], args := [d1, d2] }
  | _ => none }
def FnPermOnceWrongFalsely : Prop := fnPermOnceRow.holds Try.pinned (OpenSpec.ofChange fnPermOnceWrong)

/-- 'laws.FnShuffleIsPerm': WHATEVER THE INPUT: true; the input reads as it did. -/
def fnShuffleIsPermSpec : ChangeSpec := { name := "fnShuffleIsPerm", fn := fun _ => fun
  | [d1, d2] => { results := [.lit (.bool true)], args := [d1, d2] }
  | _ => none }
def fnShuffleIsPermRow : OpenClaim := { program := "ytdailbjipfbdfaa", sum := "06710473ad7d060702345249c3a6387ed7064f191d84f501216a82c8df4e824f", func := "loop.example/pub-g03239/laws.FnShuffleIsPerm", spec := "fnShuffleIsPerm", unfollowed := true, recurses := true, apart := false }
def FnShuffleIsPermSaid : Prop := fnShuffleIsPermRow.holds Try.pinned (OpenSpec.ofChange fnShuffleIsPermSpec)

/-- ITS FALSE NEIGHBOUR: 'it returns false'. Refute it at one input. -/
def fnShuffleIsPermWrong : ChangeSpec := { name := "fnShuffleIsPerm", fn := fun _ => fun
  | [d1, d2] => { results := [.lit (.bool false)], args := [d1, d2] }
  | _ => none }
def FnShuffleIsPermWrongFalsely : Prop := fnShuffleIsPermRow.holds Try.pinned (OpenSpec.ofChange fnShuffleIsPermWrong)

/-- 'laws.FnRefused': WHATEVER THE INPUT: true; the input reads as it did. -/
def fnRefusedSpec : ChangeSpec := { name := "fnRefused", fn := fun _ => fun
  | [d1, d2] => { results := [.lit (.bool true)], args := [d1, d2] }
  | _ => none }
def fnRefusedRow : OpenClaim := { program := "ytdailbjipfbdfaa", sum := "06710473ad7d060702345249c3a6387ed7064f191d84f501216a82c8df4e824f", func := "loop.example/pub-g03239/laws.FnRefused", spec := "fnRefused", unfollowed := true, recurses := true, apart := false }
def FnRefusedSaid : Prop := fnRefusedRow.holds Try.pinned (OpenSpec.ofChange fnRefusedSpec)

/-- ITS FALSE NEIGHBOUR: 'it returns false'. Refute it at one input. -/
def fnRefusedWrong : ChangeSpec := { name := "fnRefused", fn := fun _ => fun
  | [d1, d2] => { results := [.lit (.bool false)], args := [d1, d2] }
  | _ => none }
def FnRefusedWrongFalsely : Prop := fnRefusedRow.holds Try.pinned (OpenSpec.ofChange fnRefusedWrong)

/-- 'laws.FnSpread': WHATEVER THE INPUT: true; the input reads as it did. -/
def fnSpreadSpec : ChangeSpec := { name := "fnSpread", fn := fun _ => fun
  | [d1, d2] => { results := [.lit (.bool true)], args := [d1, d2] }
  | _ => none }
def fnSpreadRow : OpenClaim := { program := "ytdailbjipfbdfaa", sum := "06710473ad7d060702345249c3a6387ed7064f191d84f501216a82c8df4e824f", func := "loop.example/pub-g03239/laws.FnSpread", spec := "fnSpread", unfollowed := true, recurses := true, apart := false }
def FnSpreadSaid : Prop := fnSpreadRow.holds Try.pinned (OpenSpec.ofChange fnSpreadSpec)

/-- ITS FALSE NEIGHBOUR: 'it returns false'. Refute it at one input. -/
def fnSpreadWrong : ChangeSpec := { name := "fnSpread", fn := fun _ => fun
  | [d1, d2] => { results := [.lit (.bool false)], args := [d1, d2] }
  | _ => none }
def FnSpreadWrongFalsely : Prop := fnSpreadRow.holds Try.pinned (OpenSpec.ofChange fnSpreadWrong)

/-- 'laws.FnUint32N': WHATEVER THE INPUT: true; the input reads as it did. -/
def fnUint32NSpec : ChangeSpec := { name := "fnUint32N", fn := fun _ => fun
  | [d1, d2] => { results := [.lit (.bool true)], args := [d1, d2] }
  | _ => none }
def fnUint32NRow : OpenClaim := { program := "ytdailbjipfbdfaa", sum := "06710473ad7d060702345249c3a6387ed7064f191d84f501216a82c8df4e824f", func := "loop.example/pub-g03239/laws.FnUint32N", spec := "fnUint32N", unfollowed := true, recurses := true, apart := false }
def FnUint32NSaid : Prop := fnUint32NRow.holds Try.pinned (OpenSpec.ofChange fnUint32NSpec)

/-- ITS FALSE NEIGHBOUR: 'it returns false'. Refute it at one input. -/
def fnUint32NWrong : ChangeSpec := { name := "fnUint32N", fn := fun _ => fun
  | [d1, d2] => { results := [.lit (.bool false)], args := [d1, d2] }
  | _ => none }
def FnUint32NWrongFalsely : Prop := fnUint32NRow.holds Try.pinned (OpenSpec.ofChange fnUint32NWrong)

/-- 'laws.FnUint32NBelow': WHATEVER THE INPUT: true; the input reads as it did. -/
def fnUint32NBelowSpec : ChangeSpec := { name := "fnUint32NBelow", fn := fun _ => fun
  | [d1, d2] => { results := [.lit (.bool true)], args := [d1, d2] }
  | _ => none }
def fnUint32NBelowRow : OpenClaim := { program := "ytdailbjipfbdfaa", sum := "06710473ad7d060702345249c3a6387ed7064f191d84f501216a82c8df4e824f", func := "loop.example/pub-g03239/laws.FnUint32NBelow", spec := "fnUint32NBelow", unfollowed := true, recurses := true, apart := false }
def FnUint32NBelowSaid : Prop := fnUint32NBelowRow.holds Try.pinned (OpenSpec.ofChange fnUint32NBelowSpec)

/-- ITS FALSE NEIGHBOUR: 'it returns false'. Refute it at one input. -/
def fnUint32NBelowWrong : ChangeSpec := { name := "fnUint32NBelow", fn := fun _ => fun
  | [d1, d2] => { results := [.lit (.bool false)], args := [d1, d2] }
  | _ => none }
def FnUint32NBelowWrongFalsely : Prop := fnUint32NBelowRow.holds Try.pinned (OpenSpec.ofChange fnUint32NBelowWrong)

/-- 'laws.FnUint64N': WHATEVER THE INPUT: true; the input reads as it did. -/
def fnUint64NSpec : ChangeSpec := { name := "fnUint64N", fn := fun _ => fun
  | [d1, d2] => { results := [.lit (.bool true)], args := [d1, d2] }
  | _ => none }
def fnUint64NRow : OpenClaim := { program := "ytdailbjipfbdfaa", sum := "06710473ad7d060702345249c3a6387ed7064f191d84f501216a82c8df4e824f", func := "loop.example/pub-g03239/laws.FnUint64N", spec := "fnUint64N", unfollowed := true, recurses := true, apart := false }
def FnUint64NSaid : Prop := fnUint64NRow.holds Try.pinned (OpenSpec.ofChange fnUint64NSpec)

/-- ITS FALSE NEIGHBOUR: 'it returns false'. Refute it at one input. -/
def fnUint64NWrong : ChangeSpec := { name := "fnUint64N", fn := fun _ => fun
  | [d1, d2] => { results := [.lit (.bool false)], args := [d1, d2] }
  | _ => none }
def FnUint64NWrongFalsely : Prop := fnUint64NRow.holds Try.pinned (OpenSpec.ofChange fnUint64NWrong)

/-- 'laws.FnUint64NBelow': WHATEVER THE INPUT: true; the input reads as it did. -/
def fnUint64NBelowSpec : ChangeSpec := { name := "fnUint64NBelow", fn := fun _ => fun
  | [d1, d2] => { results := [.lit (.bool true)], args := [d1, d2] }
  | _ => none }
def fnUint64NBelowRow : OpenClaim := { program := "ytdailbjipfbdfaa", sum := "06710473ad7d060702345249c3a6387ed7064f191d84f501216a82c8df4e824f", func := "loop.example/pub-g03239/laws.FnUint64NBelow", spec := "fnUint64NBelow", unfollowed := true, recurses := true, apart := false }
def FnUint64NBelowSaid : Prop := fnUint64NBelowRow.holds Try.pinned (OpenSpec.ofChange fnUint64NBelowSpec)

/-- ITS FALSE NEIGHBOUR: 'it returns false'. Refute it at one input. -/
def fnUint64NBelowWrong : ChangeSpec := { name := "fnUint64NBelow", fn := fun _ => fun
  | [d1, d2] => { results := [.lit (.bool false)], args := [d1, d2] }
  | _ => none }
def FnUint64NBelowWrongFalsely : Prop := fnUint64NBelowRow.holds Try.pinned (OpenSpec.ofChange fnUint64NBelowWrong)

/-- 'laws.FnShuffle': WHATEVER THE INPUT: true; the input reads as it did. -/
def fnShuffleSpec : ChangeSpec := { name := "fnShuffle", fn := fun _ => fun
  | [d1, d2] => { results := [.lit (.bool true)], args := [d1, d2] }
  | _ => none }
def fnShuffleRow : OpenClaim := { program := "ytdailbjipfbdfaa", sum := "06710473ad7d060702345249c3a6387ed7064f191d84f501216a82c8df4e824f", func := "loop.example/pub-g03239/laws.FnShuffle", spec := "fnShuffle", unfollowed := true, recurses := true, apart := false }
def FnShuffleSaid : Prop := fnShuffleRow.holds Try.pinned (OpenSpec.ofChange fnShuffleSpec)

/-- ITS FALSE NEIGHBOUR: 'it returns false'. Refute it at one input. -/
def fnShuffleWrong : ChangeSpec := { name := "fnShuffle", fn := fun _ => fun
  | [d1, d2] => { results := [.lit (.bool false)], args := [d1, d2] }
  | _ => none }
def FnShuffleWrongFalsely : Prop := fnShuffleRow.holds Try.pinned (OpenSpec.ofChange fnShuffleWrong)

/-- 'laws.FnPerm': WHATEVER THE INPUT: true; the input reads as it did. -/
def fnPermSpec : ChangeSpec := { name := "fnPerm", fn := fun _ => fun
  | [d1, d2] => { results := [.lit (.bool true)], args := [d1, d2] }
  | _ => none }
def fnPermRow : OpenClaim := { program := "ytdailbjipfbdfaa", sum := "06710473ad7d060702345249c3a6387ed7064f191d84f501216a82c8df4e824f", func := "loop.example/pub-g03239/laws.FnPerm", spec := "fnPerm", unfollowed := true, recurses := true, apart := false }
def FnPermSaid : Prop := fnPermRow.holds Try.pinned (OpenSpec.ofChange fnPermSpec)

/-- ITS FALSE NEIGHBOUR: 'it returns false'. Refute it at one input. -/
def fnPermWrong : ChangeSpec := { name := "fnPerm", fn := fun _ => fun
  | [d1, d2] => { results := [.lit (.bool false)], args := [d1, d2] }
  | _ => none }
def FnPermWrongFalsely : Prop := fnPermRow.holds Try.pinned (OpenSpec.ofChange fnPermWrong)

/- THE SECOND FORM. 'bulk': how many values and letters a reading holds, each counted each time it is reached (what is shared counts as often as it is met; a slice's spare places count too). A statement '..UptoSaid' is the law's where the arguments, and the package variables that the reading takes, are together of bulk at most 1048576: NARROWER than '..Said'. Prove '..Said' where nothing that the law and all that it calls make is longer than what came in: it says more and counts as full. Else prove '..UptoSaid'. A law counts once. -/
mutual
def uptoBulk {H : Type} : DataW H → Nat
  | .lit (.string bytes) => bytes.length + 1
  | .lit _ => 1
  | .nil => 1
  | .ptr d => uptoBulk d + 1
  | .slice elems spare => uptoBulkAll elems + uptoBulkAll spare + 1
  | .agg parts => uptoBulkAll parts + 1
  | .iface _ d => uptoBulk d + 1
  | .map entries => uptoBulkEntries entries + 1
  | .held _ => 1
def uptoBulkAll {H : Type} : List (DataW H) → Nat
  | [] => 0
  | d :: r => uptoBulk d + uptoBulkAll r
def uptoBulkEntries {H : Type} : List (Lit × DataW H) → Nat
  | [] => 0
  | x :: r => uptoBulkEntry x + uptoBulkEntries r
def uptoBulkEntry {H : Type} : Lit × DataW H → Nat
  | (.string bytes, d) => bytes.length + uptoBulk d + 1
  | (_, d) => uptoBulk d + 1
 end
def uptoSmall : (H : Type) → List (DataW H) → Bool := fun _ ds => decide (uptoBulkAll ds ≤ 1048576)
def OpenSpec.upto (s : _root_.Go.ChangeSpec) : _root_.Go.OpenSpec := { _root_.Go.OpenSpec.ofChange s with cond := some uptoSmall }

/-- 'laws.FnPermOnce', WHERE WHAT IT READS IS OF BULK AT MOST 1048576: true; the input reads as it did. -/
def fnPermOnceUptoRow : OpenClaim := { program := "ytdailbjipfbdfaa", sum := "06710473ad7d060702345249c3a6387ed7064f191d84f501216a82c8df4e824f", func := "loop.example/pub-g03239/laws.FnPermOnce", spec := "fnPermOnce", unfollowed := true, recurses := true, apart := false, narrowed := true }
def FnPermOnceUptoSaid : Prop := fnPermOnceUptoRow.holds Try.pinned (OpenSpec.upto fnPermOnceSpec)

/-- 'laws.FnShuffleIsPerm', WHERE WHAT IT READS IS OF BULK AT MOST 1048576: true; the input reads as it did. -/
def fnShuffleIsPermUptoRow : OpenClaim := { program := "ytdailbjipfbdfaa", sum := "06710473ad7d060702345249c3a6387ed7064f191d84f501216a82c8df4e824f", func := "loop.example/pub-g03239/laws.FnShuffleIsPerm", spec := "fnShuffleIsPerm", unfollowed := true, recurses := true, apart := false, narrowed := true }
def FnShuffleIsPermUptoSaid : Prop := fnShuffleIsPermUptoRow.holds Try.pinned (OpenSpec.upto fnShuffleIsPermSpec)

/-- 'laws.FnRefused', WHERE WHAT IT READS IS OF BULK AT MOST 1048576: true; the input reads as it did. -/
def fnRefusedUptoRow : OpenClaim := { program := "ytdailbjipfbdfaa", sum := "06710473ad7d060702345249c3a6387ed7064f191d84f501216a82c8df4e824f", func := "loop.example/pub-g03239/laws.FnRefused", spec := "fnRefused", unfollowed := true, recurses := true, apart := false, narrowed := true }
def FnRefusedUptoSaid : Prop := fnRefusedUptoRow.holds Try.pinned (OpenSpec.upto fnRefusedSpec)

/-- 'laws.FnSpread', WHERE WHAT IT READS IS OF BULK AT MOST 1048576: true; the input reads as it did. -/
def fnSpreadUptoRow : OpenClaim := { program := "ytdailbjipfbdfaa", sum := "06710473ad7d060702345249c3a6387ed7064f191d84f501216a82c8df4e824f", func := "loop.example/pub-g03239/laws.FnSpread", spec := "fnSpread", unfollowed := true, recurses := true, apart := false, narrowed := true }
def FnSpreadUptoSaid : Prop := fnSpreadUptoRow.holds Try.pinned (OpenSpec.upto fnSpreadSpec)

/-- 'laws.FnUint32N', WHERE WHAT IT READS IS OF BULK AT MOST 1048576: true; the input reads as it did. -/
def fnUint32NUptoRow : OpenClaim := { program := "ytdailbjipfbdfaa", sum := "06710473ad7d060702345249c3a6387ed7064f191d84f501216a82c8df4e824f", func := "loop.example/pub-g03239/laws.FnUint32N", spec := "fnUint32N", unfollowed := true, recurses := true, apart := false, narrowed := true }
def FnUint32NUptoSaid : Prop := fnUint32NUptoRow.holds Try.pinned (OpenSpec.upto fnUint32NSpec)

/-- 'laws.FnUint32NBelow', WHERE WHAT IT READS IS OF BULK AT MOST 1048576: true; the input reads as it did. -/
def fnUint32NBelowUptoRow : OpenClaim := { program := "ytdailbjipfbdfaa", sum := "06710473ad7d060702345249c3a6387ed7064f191d84f501216a82c8df4e824f", func := "loop.example/pub-g03239/laws.FnUint32NBelow", spec := "fnUint32NBelow", unfollowed := true, recurses := true, apart := false, narrowed := true }
def FnUint32NBelowUptoSaid : Prop := fnUint32NBelowUptoRow.holds Try.pinned (OpenSpec.upto fnUint32NBelowSpec)

/-- 'laws.FnUint64N', WHERE WHAT IT READS IS OF BULK AT MOST 1048576: true; the input reads as it did. -/
def fnUint64NUptoRow : OpenClaim := { program := "ytdailbjipfbdfaa", sum := "06710473ad7d060702345249c3a6387ed7064f191d84f501216a82c8df4e824f", func := "loop.example/pub-g03239/laws.FnUint64N", spec := "fnUint64N", unfollowed := true, recurses := true, apart := false, narrowed := true }
def FnUint64NUptoSaid : Prop := fnUint64NUptoRow.holds Try.pinned (OpenSpec.upto fnUint64NSpec)

/-- 'laws.FnUint64NBelow', WHERE WHAT IT READS IS OF BULK AT MOST 1048576: true; the input reads as it did. -/
def fnUint64NBelowUptoRow : OpenClaim := { program := "ytdailbjipfbdfaa", sum := "06710473ad7d060702345249c3a6387ed7064f191d84f501216a82c8df4e824f", func := "loop.example/pub-g03239/laws.FnUint64NBelow", spec := "fnUint64NBelow", unfollowed := true, recurses := true, apart := false, narrowed := true }
def FnUint64NBelowUptoSaid : Prop := fnUint64NBelowUptoRow.holds Try.pinned (OpenSpec.upto fnUint64NBelowSpec)

/-- 'laws.FnShuffle', WHERE WHAT IT READS IS OF BULK AT MOST 1048576: true; the input reads as it did. -/
def fnShuffleUptoRow : OpenClaim := { program := "ytdailbjipfbdfaa", sum := "06710473ad7d060702345249c3a6387ed7064f191d84f501216a82c8df4e824f", func := "loop.example/pub-g03239/laws.FnShuffle", spec := "fnShuffle", unfollowed := true, recurses := true, apart := false, narrowed := true }
def FnShuffleUptoSaid : Prop := fnShuffleUptoRow.holds Try.pinned (OpenSpec.upto fnShuffleSpec)

/-- 'laws.FnPerm', WHERE WHAT IT READS IS OF BULK AT MOST 1048576: true; the input reads as it did. -/
def fnPermUptoRow : OpenClaim := { program := "ytdailbjipfbdfaa", sum := "06710473ad7d060702345249c3a6387ed7064f191d84f501216a82c8df4e824f", func := "loop.example/pub-g03239/laws.FnPerm", spec := "fnPerm", unfollowed := true, recurses := true, apart := false, narrowed := true }
def FnPermUptoSaid : Prop := fnPermUptoRow.holds Try.pinned (OpenSpec.upto fnPermSpec)

end Rows
end Go.Proofs.Ytdailbjipfbdfaa
