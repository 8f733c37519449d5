import Derived.Test.YtpcleebnfgnhdaaGreatDoorCards
import Derived.SevenTiedAt
import Derived.ProofKit
/- What the card asks of the program's list: each fact apart, for the kernel's memory. -/
namespace Go.Proofs.YtpcleebnfgnhdaaGreatDoor.fnGraphHash
open Go.RowKit

theorem c_wf : Rows.fnGraphHashRow.wfByText (OpenSpec.ofChange Rows.fnGraphHashSpec) = true := by kernel_rfl
theorem c_main : Tryz.pinned.checked.prog.mainIs = some (Rows.fnGraphHashCard.stood.harness.1, Rows.fnGraphHashCard.stood.harness.2.toList) := by kernel_rfl
theorem c_looks : true = Tryz.pinned.checked.prog.looks [] := by kernel_rfl
theorem c_goes : false = Rows.fnGraphHashRow.goesBy Tryz.pinned.checked.prog := by kernel_rfl
end Go.Proofs.YtpcleebnfgnhdaaGreatDoor.fnGraphHash
