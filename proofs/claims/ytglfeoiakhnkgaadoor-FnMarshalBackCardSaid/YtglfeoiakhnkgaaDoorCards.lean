/-
  DERIVED. GIVEN WITH THE SEED: THE CARDS: each row of YtglfeoiakhnkgaaDoorRows.lean that lists a variable, with what it lists TIED to the program's text (the seventh form; the later family's looks); each row that meets fmt, with fmt's text TOLD by the authors' own Lean function (tested against real Go, not proved from fmt's source: count such statements apart). THE CARD IS WHAT COUNTS. Prove the row's statement (the work); the ties are given (YtglfeoiakhnkgaaDoorTie.lean); close each card by the builder's one call (the guide's Derived/Test/ToyasCard.lean, 'card_holds'). Laid BY PROGRAM, IN A SANDBOX (cutbox-door.mjs). By AI agents, Wed Nov 11 2026. No macro, syntax, notation, axiom, sorry.
-/
import Derived.Test.YtglfeoiakhnkgaaDoorRows
import GoSem.ClaimSeven
namespace Go.Proofs.YtglfeoiakhnkgaaDoor
namespace Rows

/-- THE TIED CARD OF 'laws.FnUnmarshal'. -/
def fnUnmarshalCard : Claim7 := { stood := { row := fnUnmarshalRow, standIns := [], harness := (true, "0bab16c4cddc83a8545b81f3cbebe6bfd3c7acdf8e5f2ff802923a47fb95fa64"), looks := false }, kinds := [], alts := [], laidByText := true, laidKinds := [.sentinel], laidTests := true, laidLooks := .later }
def FnUnmarshalCardSaid : Prop := Claim7.holds Tryd.pinned (.plain (OpenSpec.ofChange fnUnmarshalSpec)) fnUnmarshalCard

/-- THE TIED CARD OF 'laws.FnMarshalBack'. -/
def fnMarshalBackCard : Claim7 := { stood := { row := fnMarshalBackRow, standIns := [], harness := (true, "0bab16c4cddc83a8545b81f3cbebe6bfd3c7acdf8e5f2ff802923a47fb95fa64"), looks := false }, kinds := [], alts := [], laidByText := true, laidKinds := [.sentinel], laidTests := true, laidLooks := .later }
def FnMarshalBackCardSaid : Prop := Claim7.holds Tryd.pinned (.plain (OpenSpec.ofChange fnMarshalBackSpec)) fnMarshalBackCard

/-- THE SECOND FORM's CARD OF 'laws.FnUnmarshal'. -/
def fnUnmarshalUptoCard : Claim7 := { stood := { row := fnUnmarshalUptoRow, standIns := [], harness := (true, "0bab16c4cddc83a8545b81f3cbebe6bfd3c7acdf8e5f2ff802923a47fb95fa64"), looks := false }, kinds := [], alts := [], laidByText := true, laidKinds := [.sentinel], laidTests := true, laidLooks := .later }
def FnUnmarshalUptoCardSaid : Prop := Claim7.holds Tryd.pinned (.plain (OpenSpec.upto fnUnmarshalSpec)) fnUnmarshalUptoCard

/-- THE SECOND FORM's CARD OF 'laws.FnMarshalBack'. -/
def fnMarshalBackUptoCard : Claim7 := { stood := { row := fnMarshalBackUptoRow, standIns := [], harness := (true, "0bab16c4cddc83a8545b81f3cbebe6bfd3c7acdf8e5f2ff802923a47fb95fa64"), looks := false }, kinds := [], alts := [], laidByText := true, laidKinds := [.sentinel], laidTests := true, laidLooks := .later }
def FnMarshalBackUptoCardSaid : Prop := Claim7.holds Tryd.pinned (.plain (OpenSpec.upto fnMarshalBackSpec)) fnMarshalBackUptoCard
end Rows
end Go.Proofs.YtglfeoiakhnkgaaDoor
