/-
  DERIVED. GIVEN WITH THE SEED: THE CARDS: each row of YtpcleebnfgnhdaaGreatDoorRows.lean that lists a variable, with what it lists TIED to the program's text (the seventh form; the later family's looks); each row that meets fmt, with fmt's text TOLD by the authors' own Lean function (tested against real Go, not proved from fmt's source: count such statements apart). THE CARD IS WHAT COUNTS. Prove the row's statement (the work); the ties are given (YtpcleebnfgnhdaaGreatDoorTie.lean); close each card by the builder's one call (the guide's Derived/Test/ToyasCard.lean, 'card_holds'). Laid BY PROGRAM, IN A SANDBOX (cutbox-door.mjs). By AI agents, Wed Nov 11 2026. No macro, syntax, notation, axiom, sorry.
-/
import Derived.Test.YtpcleebnfgnhdaaGreatDoorRows
import GoSem.ClaimSeven
namespace Go.Proofs.YtpcleebnfgnhdaaGreatDoor
namespace Rows

/-- THE TIED CARD OF 'laws.FnGraphHash'. -/
def fnGraphHashCard : Claim7 := { stood := { row := fnGraphHashRow, standIns := [], harness := (true, "11a538f4250f1ec23e8ca93dd34de83ff59c90b69e4f2ed05bc44fae4888bef4"), looks := true }, kinds := [], alts := [], laidByText := true, laidKinds := [.data, .data, .data, .data, .data], laidTests := true, laidLooks := .later }
def FnGraphHashCardSaid : Prop := Claim7.holds Tryz.pinned (.plain (OpenSpec.ofChange fnGraphHashSpec)) fnGraphHashCard

/-- THE TIED CARD OF 'laws.FnStructBack'. -/
def fnStructBackCard : Claim7 := { stood := { row := fnStructBackRow, standIns := [], harness := (true, "11a538f4250f1ec23e8ca93dd34de83ff59c90b69e4f2ed05bc44fae4888bef4"), looks := true }, kinds := [], alts := [], laidByText := true, laidKinds := [.data, .data, .data, .data, .data], laidTests := true, laidLooks := .later }
def FnStructBackCardSaid : Prop := Claim7.holds Tryz.pinned (.plain (OpenSpec.ofChange fnStructBackSpec)) fnStructBackCard

/-- THE SECOND FORM's CARD OF 'laws.FnGraphHash'. -/
def fnGraphHashUptoCard : Claim7 := { stood := { row := fnGraphHashUptoRow, standIns := [], harness := (true, "11a538f4250f1ec23e8ca93dd34de83ff59c90b69e4f2ed05bc44fae4888bef4"), looks := true }, kinds := [], alts := [], laidByText := true, laidKinds := [.data, .data, .data, .data, .data], laidTests := true, laidLooks := .later }
def FnGraphHashUptoCardSaid : Prop := Claim7.holds Tryz.pinned (.plain (OpenSpec.upto fnGraphHashSpec)) fnGraphHashUptoCard

/-- THE SECOND FORM's CARD OF 'laws.FnStructBack'. -/
def fnStructBackUptoCard : Claim7 := { stood := { row := fnStructBackUptoRow, standIns := [], harness := (true, "11a538f4250f1ec23e8ca93dd34de83ff59c90b69e4f2ed05bc44fae4888bef4"), looks := true }, kinds := [], alts := [], laidByText := true, laidKinds := [.data, .data, .data, .data, .data], laidTests := true, laidLooks := .later }
def FnStructBackUptoCardSaid : Prop := Claim7.holds Tryz.pinned (.plain (OpenSpec.upto fnStructBackSpec)) fnStructBackUptoCard
end Rows
end Go.Proofs.YtpcleebnfgnhdaaGreatDoor
