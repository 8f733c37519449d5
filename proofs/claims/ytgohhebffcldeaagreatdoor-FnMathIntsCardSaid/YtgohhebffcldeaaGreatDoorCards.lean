/-
  DERIVED. GIVEN WITH THE SEED: THE CARDS: each row of YtgohhebffcldeaaGreatDoorRows.lean that lists a variable, with what it lists TIED to the program's text (the seventh form; the later family's looks); each row that meets fmt, with fmt's text TOLD by the authors' own Lean function (tested against real Go, not proved from fmt's source: count such statements apart). THE CARD IS WHAT COUNTS. Prove the row's statement (the work); the ties are given (YtgohhebffcldeaaGreatDoorTie.lean); close each card by the builder's one call (the guide's Derived/Test/ToyasCard.lean, 'card_holds'). Laid BY PROGRAM, IN A SANDBOX (cutbox-door.mjs). By AI agents, Wed Nov 11 2026. No macro, syntax, notation, axiom, sorry.
-/
import Derived.Test.YtgohhebffcldeaaGreatDoorRows
import GoSem.ClaimSeven
namespace Go.Proofs.YtgohhebffcldeaaGreatDoor
namespace Rows

/-- THE TIED CARD OF 'laws.FnMathInts'. -/
def fnMathIntsCard : Claim7 := { stood := { row := fnMathIntsRow, standIns := [], harness := (true, "2cafa192de65a9c18646937c028b9512a6ed4efb473fa6265459b10cc0d3bab6"), looks := true }, kinds := [], alts := [], laidByText := true, laidKinds := [.data, .data, .data, .data], laidTests := true, laidLooks := .later }
def FnMathIntsCardSaid : Prop := Claim7.holds Tryz.pinned (.plain (OpenSpec.ofChange fnMathIntsSpec)) fnMathIntsCard

/-- THE TIED CARD OF 'laws.FnCompareNumbers'. -/
def fnCompareNumbersCard : Claim7 := { stood := { row := fnCompareNumbersRow, standIns := [], harness := (true, "2cafa192de65a9c18646937c028b9512a6ed4efb473fa6265459b10cc0d3bab6"), looks := true }, kinds := [], alts := [], laidByText := true, laidKinds := [.data, .data, .data, .data, .data], laidTests := true, laidLooks := .later }
def FnCompareNumbersCardSaid : Prop := Claim7.holds Tryz.pinned (.plain (OpenSpec.ofChange fnCompareNumbersSpec)) fnCompareNumbersCard

/-- THE SECOND FORM's CARD OF 'laws.FnMathInts'. -/
def fnMathIntsUptoCard : Claim7 := { stood := { row := fnMathIntsUptoRow, standIns := [], harness := (true, "2cafa192de65a9c18646937c028b9512a6ed4efb473fa6265459b10cc0d3bab6"), looks := true }, kinds := [], alts := [], laidByText := true, laidKinds := [.data, .data, .data, .data], laidTests := true, laidLooks := .later }
def FnMathIntsUptoCardSaid : Prop := Claim7.holds Tryz.pinned (.plain (OpenSpec.upto fnMathIntsSpec)) fnMathIntsUptoCard

/-- THE SECOND FORM's CARD OF 'laws.FnCompareNumbers'. -/
def fnCompareNumbersUptoCard : Claim7 := { stood := { row := fnCompareNumbersUptoRow, standIns := [], harness := (true, "2cafa192de65a9c18646937c028b9512a6ed4efb473fa6265459b10cc0d3bab6"), looks := true }, kinds := [], alts := [], laidByText := true, laidKinds := [.data, .data, .data, .data, .data], laidTests := true, laidLooks := .later }
def FnCompareNumbersUptoCardSaid : Prop := Claim7.holds Tryz.pinned (.plain (OpenSpec.upto fnCompareNumbersSpec)) fnCompareNumbersUptoCard
end Rows
end Go.Proofs.YtgohhebffcldeaaGreatDoor
