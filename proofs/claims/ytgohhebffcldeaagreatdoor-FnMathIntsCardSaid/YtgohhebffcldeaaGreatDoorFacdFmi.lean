/- What the card asks of the program's list: each fact apart, for the kernel's memory. -/
import Derived.Test.YtgohhebffcldeaaGreatDoorCards
import Derived.SevenTiedAt
import Derived.ProofKit
namespace Go.Proofs.YtgohhebffcldeaaGreatDoor.fnMathInts
open Go.RowKit

theorem c_wf : Rows.fnMathIntsRow.wfByText (OpenSpec.ofChange Rows.fnMathIntsSpec) = true := by kernel_rfl
theorem c_main : Tryz.pinned.checked.prog.mainIs = some (Rows.fnMathIntsCard.stood.harness.1, Rows.fnMathIntsCard.stood.harness.2.toList) := by kernel_rfl
theorem c_looks : true = Tryz.pinned.checked.prog.looks [] := by kernel_rfl
theorem c_goes : false = Rows.fnMathIntsRow.goesBy Tryz.pinned.checked.prog := by kernel_rfl
end Go.Proofs.YtgohhebffcldeaaGreatDoor.fnMathInts
