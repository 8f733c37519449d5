/-
  PROVED HERE: the card of 'laws.FnMathInts': of two integers of at most 300 bytes that are doubles, copysign, mod and fabs say what they say of the doubles.
  CONDITIONS: none beyond the row's own: the listed package variables hold what the program's text lays (tied).
-/
import Derived.Test.YtgohhebffcldeaaGreatDoorCards
import Derived.Test.YtgohhebffcldeaaGreatDoorTie
import Derived.Test.YtgohhebffcldeaaGreatDoorRowFmi
import Derived.Test.YtgohhebffcldeaaGreatDoorFacdFmi
import Derived.SevenTiedAt
set_option linter.unusedVariables false
namespace Go.Proofs.YtgohhebffcldeaaGreatDoor
open Go

theorem mathIntsCard : Rows.FnMathIntsCardSaid :=
  Claim7.holds_tied_plain_at .later [] [.data, .data, .data, .data] true Rows.fnMathIntsCard.stood.harness true
    fnMathInts.proved (fun _ h => by cases h) fnMathInts.c_wf (fun _ h => by cases h) fnMathInts_row_tie rfl ⟨rfl, rfl⟩ fnMathInts.c_main rfl
    (fun f fn hf hfn => by
      obtain rfl : f = 3 := Option.some.inj ((show Tryz.prog.funcNamed "given.example/pub-larkspur/laws.FnMathInts" = some 3 by kernel_rfl).symm.trans hf) |>.symm
      obtain rfl : fn = Tryz.f3 := (Option.some.inj (Tryz.func3.symm.trans hfn)).symm
      exact ⟨fnMathInts.c_looks, fun j t ht => by
        rw [Tryz.params3] at ht
        have h3 : t = 4 ∨ t = 22 := by
          rcases j with _ | _ | _ | _ | j
          · left; simpa using ht.symm
          · right; simpa using ht.symm
          · left; simpa using ht.symm
          · right; simpa using ht.symm
          · simp at ht
        rcases h3 with rfl | rfl
        · exact (show Tryz.prog.wantsStandIn 4 = false by kernel_rfl)
        · exact (show Tryz.prog.wantsStandIn 22 = false by kernel_rfl)⟩)
    fnMathInts.c_goes
#print axioms mathIntsCard
end Go.Proofs.YtgohhebffcldeaaGreatDoor
