/- What the card asks of the program's list: each fact apart, for the kernel's memory. -/
import Derived.Test.YtgohhebffcldeaaGreatDoorCards
import Derived.SevenTiedAt
import Derived.ProofKit
namespace Go.Proofs.YtgohhebffcldeaaGreatDoor.fnCompareNumbers
open Go.RowKit

theorem c_wf : Rows.fnCompareNumbersRow.wfByText (OpenSpec.ofChange Rows.fnCompareNumbersSpec) = true := by kernel_rfl
theorem c_main : Tryz.pinned.checked.prog.mainIs = some (Rows.fnCompareNumbersCard.stood.harness.1, Rows.fnCompareNumbersCard.stood.harness.2.toList) := by kernel_rfl
theorem c_looks : true = Tryz.pinned.checked.prog.looks [] := by kernel_rfl
theorem c_goes : false = Rows.fnCompareNumbersRow.goesBy Tryz.pinned.checked.prog := by kernel_rfl
end Go.Proofs.YtgohhebffcldeaaGreatDoor.fnCompareNumbers
