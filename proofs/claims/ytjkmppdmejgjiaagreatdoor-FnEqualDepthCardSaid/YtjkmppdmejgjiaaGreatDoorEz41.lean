import Derived.Test.YtjkmppdmejgjiaaGreatDoorCards
import Derived.SevenTiedAt
import Derived.ProofKit
/- What the card asks of the program's list: each fact apart, for the kernel's memory. -/
namespace Go.Proofs.YtjkmppdmejgjiaaGreatDoor.fnEqualDepth
open Go.RowKit

theorem c_wf : Rows.fnEqualDepthRow.wfByText (OpenSpec.ofChange Rows.fnEqualDepthSpec) = true := by kernel_rfl
theorem c_main : Tryz.pinned.checked.prog.mainIs = some (Rows.fnEqualDepthCard.stood.harness.1, Rows.fnEqualDepthCard.stood.harness.2.toList) := by kernel_rfl
theorem c_looks : true = Tryz.pinned.checked.prog.looks [] := by kernel_rfl
theorem c_goes : false = Rows.fnEqualDepthRow.goesBy Tryz.pinned.checked.prog := by kernel_rfl
end Go.Proofs.YtjkmppdmejgjiaaGreatDoor.fnEqualDepth
