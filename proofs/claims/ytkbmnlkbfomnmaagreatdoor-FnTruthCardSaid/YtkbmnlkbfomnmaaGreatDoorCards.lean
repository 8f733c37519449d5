/-
  DERIVED. GIVEN WITH THE SEED: THE CARDS: each row of YtkbmnlkbfomnmaaGreatDoorRows.lean that lists a variable, with what it lists TIED to the program's text (the seventh form; the later family's looks); each row that meets fmt, with fmt's text TOLD by the authors' own Lean function (tested against real Go, not proved from fmt's source: count such statements apart). THE CARD IS WHAT COUNTS. Prove the row's statement (the work); the ties are given (YtkbmnlkbfomnmaaGreatDoorTie.lean); close each card by the builder's one call (the guide's Derived/Test/ToyasCard.lean, 'card_holds'). Laid BY PROGRAM, IN A SANDBOX (cutbox-door.mjs). By AI agents, Wed Nov 11 2026. No macro, syntax, notation, axiom, sorry.
-/
import Derived.Test.YtkbmnlkbfomnmaaGreatDoorRows
import GoSem.ClaimSeven
namespace Go.Proofs.YtkbmnlkbfomnmaaGreatDoor
namespace Rows

/-- THE TIED CARD OF 'laws.FnTruth'. -/
def fnTruthCard : Claim7 := { stood := { row := fnTruthRow, standIns := [], harness := (true, "437e715e166582ce8b70134a713fedd15771223e4df74a3ba5ddf46cbac0c952"), looks := true }, kinds := [], alts := [], laidByText := true, laidKinds := [.data, .data, .data, .data, .data], laidTests := true, laidLooks := .later }
def FnTruthCardSaid : Prop := Claim7.holds Tryz.pinned (.plain (OpenSpec.ofChange fnTruthSpec)) fnTruthCard

/-- THE TIED CARD OF 'laws.FnEqualDepth'. -/
def fnEqualDepthCard : Claim7 := { stood := { row := fnEqualDepthRow, standIns := [], harness := (true, "437e715e166582ce8b70134a713fedd15771223e4df74a3ba5ddf46cbac0c952"), looks := true }, kinds := [], alts := [], laidByText := true, laidKinds := [.data, .data, .data, .data, .data], laidTests := true, laidLooks := .later }
def FnEqualDepthCardSaid : Prop := Claim7.holds Tryz.pinned (.plain (OpenSpec.ofChange fnEqualDepthSpec)) fnEqualDepthCard

/-- THE SECOND FORM's CARD OF 'laws.FnTruth'. -/
def fnTruthUptoCard : Claim7 := { stood := { row := fnTruthUptoRow, standIns := [], harness := (true, "437e715e166582ce8b70134a713fedd15771223e4df74a3ba5ddf46cbac0c952"), looks := true }, kinds := [], alts := [], laidByText := true, laidKinds := [.data, .data, .data, .data, .data], laidTests := true, laidLooks := .later }
def FnTruthUptoCardSaid : Prop := Claim7.holds Tryz.pinned (.plain (OpenSpec.upto fnTruthSpec)) fnTruthUptoCard

/-- THE SECOND FORM's CARD OF 'laws.FnEqualDepth'. -/
def fnEqualDepthUptoCard : Claim7 := { stood := { row := fnEqualDepthUptoRow, standIns := [], harness := (true, "437e715e166582ce8b70134a713fedd15771223e4df74a3ba5ddf46cbac0c952"), looks := true }, kinds := [], alts := [], laidByText := true, laidKinds := [.data, .data, .data, .data, .data], laidTests := true, laidLooks := .later }
def FnEqualDepthUptoCardSaid : Prop := Claim7.holds Tryz.pinned (.plain (OpenSpec.upto fnEqualDepthSpec)) fnEqualDepthUptoCard
end Rows
end Go.Proofs.YtkbmnlkbfomnmaaGreatDoor
