import Derived.Test.YtkbmnlkbfomnmaaGreatDoorCards
import Derived.Test.YtkbmnlkbfomnmaaGreatDoorTie
import Derived.Test.YtkbmnlkbfomnmaaGreatDoorTz35
import Derived.Test.YtkbmnlkbfomnmaaGreatDoorTz36
import Derived.SevenTiedAt
/-
  PROVED HERE: the card of 'laws.FnTruth': a value of at most four levels (as cleaned) is true for the package just if it is for the specification.
  CONDITIONS: none beyond the row's own: the listed package variables hold what the program's text lays (tied).
-/
set_option linter.unusedVariables false
namespace Go.Proofs.YtkbmnlkbfomnmaaGreatDoor
open Go

theorem truthCard : Rows.FnTruthCardSaid :=
  Claim7.holds_tied_plain_at .later [] [.data, .data, .data, .data, .data] true Rows.fnTruthCard.stood.harness true
    fnTruth.proved (fun _ h => by cases h) fnTruth.c_wf (fun _ h => by cases h) fnTruth_row_tie rfl ⟨rfl, rfl⟩ fnTruth.c_main rfl
    (fun f fn hf hfn => by
      obtain rfl : f = 3 := Option.some.inj ((show Tryz.prog.funcNamed "given.example/pub-larkspur/laws.FnTruth" = some 3 by kernel_rfl).symm.trans hf) |>.symm
      obtain rfl : fn = Tryz.f3 := (Option.some.inj (Tryz.func3.symm.trans hfn)).symm
      exact ⟨fnTruth.c_looks, fun j t ht => by
        rw [Tryz.params3] at ht
        have h3 : t = 26 := by
          rcases j with _ | j
          · simpa using ht.symm
          · simp at ht
        subst h3
        exact (show Tryz.prog.wantsStandIn 26 = false by kernel_rfl)⟩)
    fnTruth.c_goes
#print axioms truthCard
end Go.Proofs.YtkbmnlkbfomnmaaGreatDoor
