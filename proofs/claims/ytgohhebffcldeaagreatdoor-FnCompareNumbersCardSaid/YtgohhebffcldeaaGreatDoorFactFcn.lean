/- What the program's own list says of the function: each fact apart, for the kernel's memory. -/
import Derived.Test.YtgohhebffcldeaaGreatDoorRows
import Derived.ProofKit
import Derived.JoinedOf
namespace Go.Proofs.YtgohhebffcldeaaGreatDoor.fnCompareNumbers
open Go.RowKit

theorem f_inPlace : (Rows.fnCompareNumbersRow.inPlace == Tryz.prog.inPlace 4) = true := by kernel_rfl
theorem f_unfollowed : (Rows.fnCompareNumbersRow.unfollowed == Tryz.prog.unfollowed 4) = true := by kernel_rfl
theorem f_recurses : (Rows.fnCompareNumbersRow.recurses == Tryz.prog.recurses 4) = true := by kernel_rfl
theorem f_named : (Rows.fnCompareNumbersRow.named == Tryz.prog.varsNamed 4) = true := by kernel_rfl
theorem closed : joinedFacts Tryz.prog 4 Tryz.f4 Rows.fnCompareNumbersSpec Rows.fnCompareNumbersRow = true := by
  unfold joinedFacts
  rw [f_inPlace, f_unfollowed, f_recurses, f_named]
  kernel_rfl
end Go.Proofs.YtgohhebffcldeaaGreatDoor.fnCompareNumbers
