import Derived.Test.YtpcleebnfgnhdaaGreatDoorRows
import Derived.ProofKit
import Derived.JoinedOf
/- What the program's own list says of the function: each fact apart, for the kernel's memory. -/
namespace Go.Proofs.YtpcleebnfgnhdaaGreatDoor.fnGraphHash
open Go.RowKit

theorem f_inPlace : (Rows.fnGraphHashRow.inPlace == Tryz.prog.inPlace 3) = true := by kernel_rfl
theorem f_unfollowed : (Rows.fnGraphHashRow.unfollowed == Tryz.prog.unfollowed 3) = true := by kernel_rfl
theorem f_recurses : (Rows.fnGraphHashRow.recurses == Tryz.prog.recurses 3) = true := by kernel_rfl
theorem f_named : (Rows.fnGraphHashRow.named == Tryz.prog.varsNamed 3) = true := by kernel_rfl
theorem closed : joinedFacts Tryz.prog 3 Tryz.f3 Rows.fnGraphHashSpec Rows.fnGraphHashRow = true := by
  unfold joinedFacts
  rw [f_inPlace, f_unfollowed, f_recurses, f_named]
  kernel_rfl
end Go.Proofs.YtpcleebnfgnhdaaGreatDoor.fnGraphHash
