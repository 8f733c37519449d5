/-
  DERIVED. GIVEN WITH THE SEED: THE CARDS: each row of YtalpkahhfjkeiaaGreatDoorRows.lean that lists a variable, with what it lists TIED to the program's text (the seventh form; the later family's looks); each row that meets fmt, with fmt's text TOLD by the authors' own Lean function (tested against real Go, not proved from fmt's source: count such statements apart). THE CARD IS WHAT COUNTS. Prove the row's statement (the work); the ties are given (YtalpkahhfjkeiaaGreatDoorTie.lean); close each card by the builder's one call (the guide's Derived/Test/ToyasCard.lean, 'card_holds'). Laid BY PROGRAM, IN A SANDBOX (cutbox-door.mjs). By AI agents, Wed Nov 11 2026. No macro, syntax, notation, axiom, sorry.
-/
import Derived.Test.YtalpkahhfjkeiaaGreatDoorRows
import GoSem.ClaimSeven
namespace Go.Proofs.YtalpkahhfjkeiaaGreatDoor
namespace Rows

/-- THE TIED CARD OF 'laws.FnNumberToInt'. -/
def fnNumberToIntCard : Claim7 := { stood := { row := fnNumberToIntRow, standIns := [], harness := (true, "52500abb39710affd655863ed5f8a65f171ef75434db96160ba21cbd796b3798"), looks := true }, kinds := [], alts := [], laidByText := true, laidKinds := [.data, .data, .data, .data, .data], laidTests := true, laidLooks := .later }
def FnNumberToIntCardSaid : Prop := Claim7.holds Tryz.pinned (.plain (OpenSpec.ofChange fnNumberToIntSpec)) fnNumberToIntCard

/-- THE SECOND FORM's CARD OF 'laws.FnNumberToInt'. -/
def fnNumberToIntUptoCard : Claim7 := { stood := { row := fnNumberToIntUptoRow, standIns := [], harness := (true, "52500abb39710affd655863ed5f8a65f171ef75434db96160ba21cbd796b3798"), looks := true }, kinds := [], alts := [], laidByText := true, laidKinds := [.data, .data, .data, .data, .data], laidTests := true, laidLooks := .later }
def FnNumberToIntUptoCardSaid : Prop := Claim7.holds Tryz.pinned (.plain (OpenSpec.upto fnNumberToIntSpec)) fnNumberToIntUptoCard
end Rows
end Go.Proofs.YtalpkahhfjkeiaaGreatDoor
