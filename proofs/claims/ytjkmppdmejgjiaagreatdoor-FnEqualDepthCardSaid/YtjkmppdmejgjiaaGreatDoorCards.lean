/-
  DERIVED. GIVEN WITH THE SEED: THE CARDS: each row of YtjkmppdmejgjiaaGreatDoorRows.lean that lists a variable, with what it lists TIED to the program's text (the seventh form; the later family's looks); each row that meets fmt, with fmt's text TOLD by the authors' own Lean function (tested against real Go, not proved from fmt's source: count such statements apart). THE CARD IS WHAT COUNTS. Prove the row's statement (the work); the ties are given (YtjkmppdmejgjiaaGreatDoorTie.lean); close each card by the builder's one call (the guide's Derived/Test/ToyasCard.lean, 'card_holds'). Laid BY PROGRAM, IN A SANDBOX (cutbox-door.mjs). By AI agents, Wed Nov 11 2026. No macro, syntax, notation, axiom, sorry.
-/
import Derived.Test.YtjkmppdmejgjiaaGreatDoorRows
import GoSem.ClaimSeven
namespace Go.Proofs.YtjkmppdmejgjiaaGreatDoor
namespace Rows

/-- THE TIED CARD OF 'laws.FnEqualDepth'. -/
def fnEqualDepthCard : Claim7 := { stood := { row := fnEqualDepthRow, standIns := [], harness := (true, "1b98ccdbbf48d720b9ca8e8238e102a0a3e1defd9ef427d52c4241d97da92aab"), looks := true }, kinds := [], alts := [], laidByText := true, laidKinds := [.data, .data, .data, .data, .data], laidTests := true, laidLooks := .later }
def FnEqualDepthCardSaid : Prop := Claim7.holds Tryz.pinned (.plain (OpenSpec.ofChange fnEqualDepthSpec)) fnEqualDepthCard

/-- THE TIED CARD OF 'laws.FnGraphHash'. -/
def fnGraphHashCard : Claim7 := { stood := { row := fnGraphHashRow, standIns := [], harness := (true, "1b98ccdbbf48d720b9ca8e8238e102a0a3e1defd9ef427d52c4241d97da92aab"), looks := true }, kinds := [], alts := [], laidByText := true, laidKinds := [.data, .data, .data, .data, .data], laidTests := true, laidLooks := .later }
def FnGraphHashCardSaid : Prop := Claim7.holds Tryz.pinned (.plain (OpenSpec.ofChange fnGraphHashSpec)) fnGraphHashCard

/-- THE SECOND FORM's CARD OF 'laws.FnEqualDepth'. -/
def fnEqualDepthUptoCard : Claim7 := { stood := { row := fnEqualDepthUptoRow, standIns := [], harness := (true, "1b98ccdbbf48d720b9ca8e8238e102a0a3e1defd9ef427d52c4241d97da92aab"), looks := true }, kinds := [], alts := [], laidByText := true, laidKinds := [.data, .data, .data, .data, .data], laidTests := true, laidLooks := .later }
def FnEqualDepthUptoCardSaid : Prop := Claim7.holds Tryz.pinned (.plain (OpenSpec.upto fnEqualDepthSpec)) fnEqualDepthUptoCard

/-- THE SECOND FORM's CARD OF 'laws.FnGraphHash'. -/
def fnGraphHashUptoCard : Claim7 := { stood := { row := fnGraphHashUptoRow, standIns := [], harness := (true, "1b98ccdbbf48d720b9ca8e8238e102a0a3e1defd9ef427d52c4241d97da92aab"), looks := true }, kinds := [], alts := [], laidByText := true, laidKinds := [.data, .data, .data, .data, .data], laidTests := true, laidLooks := .later }
def FnGraphHashUptoCardSaid : Prop := Claim7.holds Tryz.pinned (.plain (OpenSpec.upto fnGraphHashSpec)) fnGraphHashUptoCard
end Rows
end Go.Proofs.YtjkmppdmejgjiaaGreatDoor
