/-
  PROVED HERE: the card of 'laws.FnCompareNumbers': an integer of at most 150 bytes and any float are compared, both ways round and by each of the six operators, by what they are worth.
  CONDITIONS: none beyond the row's own: the listed package variables hold what the program's text lays (tied).
-/
import Derived.Test.YtgohhebffcldeaaGreatDoorCards
import Derived.Test.YtgohhebffcldeaaGreatDoorTie
import Derived.Test.YtgohhebffcldeaaGreatDoorRowFcn
import Derived.Test.YtgohhebffcldeaaGreatDoorFacdFcn
import Derived.SevenTiedAt
set_option linter.unusedVariables false
namespace Go.Proofs.YtgohhebffcldeaaGreatDoor
open Go

theorem compareNumbersCard : Rows.FnCompareNumbersCardSaid :=
  Claim7.holds_tied_plain_at .later [] [.data, .data, .data, .data, .data] true Rows.fnCompareNumbersCard.stood.harness true
    fnCompareNumbers.proved (fun _ h => by cases h) fnCompareNumbers.c_wf (fun _ h => by cases h) fnCompareNumbers_row_tie rfl ⟨rfl, rfl⟩ fnCompareNumbers.c_main rfl
    (fun f fn hf hfn => by
      obtain rfl : f = 4 := Option.some.inj ((show Tryz.prog.funcNamed "given.example/pub-larkspur/laws.FnCompareNumbers" = some 4 by kernel_rfl).symm.trans hf) |>.symm
      obtain rfl : fn = Tryz.f4 := (Option.some.inj (Tryz.func4.symm.trans hfn)).symm
      exact ⟨fnCompareNumbers.c_looks, fun j t ht => by
        rw [Tryz.params4] at ht
        have h3 : t = 3 ∨ t = 4 ∨ t = 22 ∨ t = 23 := by
          rcases j with _ | _ | _ | _ | j
          · left; simpa using ht.symm
          · right; left; simpa using ht.symm
          · right; right; left; simpa using ht.symm
          · right; right; right; simpa using ht.symm
          · simp at ht
        rcases h3 with rfl | rfl | rfl | rfl
        · exact (show Tryz.prog.wantsStandIn 3 = false by kernel_rfl)
        · exact (show Tryz.prog.wantsStandIn 4 = false by kernel_rfl)
        · exact (show Tryz.prog.wantsStandIn 22 = false by kernel_rfl)
        · exact (show Tryz.prog.wantsStandIn 23 = false by kernel_rfl)⟩)
    fnCompareNumbers.c_goes
#print axioms compareNumbersCard
end Go.Proofs.YtgohhebffcldeaaGreatDoor
