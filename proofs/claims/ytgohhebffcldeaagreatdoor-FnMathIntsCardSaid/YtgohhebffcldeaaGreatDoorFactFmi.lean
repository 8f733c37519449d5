/- What the program's own list says of the function: each fact apart, for the kernel's memory. -/
import Derived.Test.YtgohhebffcldeaaGreatDoorRows
import Derived.ProofKit
import Derived.JoinedOf
namespace Go.Proofs.YtgohhebffcldeaaGreatDoor.fnMathInts
open Go.RowKit

theorem f_inPlace : (Rows.fnMathIntsRow.inPlace == Tryz.prog.inPlace 3) = true := by kernel_rfl
theorem f_unfollowed : (Rows.fnMathIntsRow.unfollowed == Tryz.prog.unfollowed 3) = true := by kernel_rfl
theorem f_recurses : (Rows.fnMathIntsRow.recurses == Tryz.prog.recurses 3) = true := by kernel_rfl
theorem f_named : (Rows.fnMathIntsRow.named == Tryz.prog.varsNamed 3) = true := by kernel_rfl
theorem closed : joinedFacts Tryz.prog 3 Tryz.f3 Rows.fnMathIntsSpec Rows.fnMathIntsRow = true := by
  unfold joinedFacts
  rw [f_inPlace, f_unfollowed, f_recurses, f_named]
  kernel_rfl
end Go.Proofs.YtgohhebffcldeaaGreatDoor.fnMathInts
