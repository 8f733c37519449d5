/-
  PROVED HERE: the card of 'laws.FnNumberToInt': NumberToInt of an integer is that integer, of a finite float the float cut off toward 0, and of a string or a bool it is refused.
  CONDITIONS: none beyond the row's own: the listed package variables hold what the program's text lays (tied).
-/
import Derived.Test.YtalpkahhfjkeiaaGreatDoorCards
import Derived.Test.YtalpkahhfjkeiaaGreatDoorTie
import Derived.Test.YtalpkahhfjkeiaaGreatDoorRowNti
import Derived.SevenTiedAt
set_option linter.unusedVariables false
namespace Go.Proofs.YtalpkahhfjkeiaaGreatDoor
open Go

theorem numberToIntCard : Rows.FnNumberToIntCardSaid :=
  Claim7.holds_tied_plain_at .later [] [.data, .data, .data, .data, .data] true Rows.fnNumberToIntCard.stood.harness true
    fnNumberToInt.proved (fun _ h => by cases h) (by kernel_rfl) (fun _ h => by cases h) fnNumberToInt_row_tie rfl ⟨rfl, rfl⟩ (by kernel_rfl) rfl
    (fun f fn hf hfn => by
      obtain rfl : f = 3 := Option.some.inj ((show Tryz.prog.funcNamed "given.example/pub-larkspur/laws.FnNumberToInt" = some 3 by kernel_rfl).symm.trans hf) |>.symm
      obtain rfl : fn = Tryz.f3 := (Option.some.inj (Tryz.func3.symm.trans hfn)).symm
      exact ⟨by kernel_rfl, fun j t ht => by
        rw [Tryz.params3] at ht
        have h3 : t = 4 ∨ t = 22 ∨ t = 23 ∨ t = 9 := by
          rcases j with _ | _ | _ | _ | j
          · left; simpa using ht.symm
          · right; left; simpa using ht.symm
          · right; right; left; simpa using ht.symm
          · right; right; right; simpa using ht.symm
          · simp at ht
        rcases h3 with rfl | rfl | rfl | rfl
        · exact (show Tryz.prog.wantsStandIn 4 = false by kernel_rfl)
        · exact (show Tryz.prog.wantsStandIn 22 = false by kernel_rfl)
        · exact (show Tryz.prog.wantsStandIn 23 = false by kernel_rfl)
        · exact (show Tryz.prog.wantsStandIn 9 = false by kernel_rfl)⟩)
    (by kernel_rfl)
#print axioms numberToIntCard
end Go.Proofs.YtalpkahhfjkeiaaGreatDoor
