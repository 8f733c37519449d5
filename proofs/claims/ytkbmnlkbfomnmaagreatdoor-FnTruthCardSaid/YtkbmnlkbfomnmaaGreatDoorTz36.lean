import Derived.Test.YtkbmnlkbfomnmaaGreatDoorCards
import Derived.SevenTiedAt
import Derived.ProofKit
/- What the card asks of the program's list: each fact apart, for the kernel's memory. -/
namespace Go.Proofs.YtkbmnlkbfomnmaaGreatDoor.fnTruth
open Go.RowKit

theorem c_wf : Rows.fnTruthRow.wfByText (OpenSpec.ofChange Rows.fnTruthSpec) = true := by kernel_rfl
theorem c_main : Tryz.pinned.checked.prog.mainIs = some (Rows.fnTruthCard.stood.harness.1, Rows.fnTruthCard.stood.harness.2.toList) := by kernel_rfl
theorem c_looks : true = Tryz.pinned.checked.prog.looks [] := by kernel_rfl
theorem c_goes : false = Rows.fnTruthRow.goesBy Tryz.pinned.checked.prog := by kernel_rfl
end Go.Proofs.YtkbmnlkbfomnmaaGreatDoor.fnTruth
