import Derived.Test.YtjkmppdmejgjiaaGreatDoorCards
import Derived.Test.YtjkmppdmejgjiaaGreatDoorTie
import Derived.Test.YtjkmppdmejgjiaaGreatDoorEz40
import Derived.Test.YtjkmppdmejgjiaaGreatDoorEz41
import Derived.SevenTiedAt
/-
  PROVED HERE: the card of 'laws.FnEqualDepth': two values of at most four levels (as cleaned) are equal for the package, asked to a depth of 10 to 59, just if they are for the specification.
  CONDITIONS: none beyond the row's own: the listed package variables hold what the program's text lays (tied).
-/
set_option linter.unusedVariables false
namespace Go.Proofs.YtjkmppdmejgjiaaGreatDoor
open Go

theorem equalDepthCard : Rows.FnEqualDepthCardSaid :=
  Claim7.holds_tied_plain_at .later [] [.data, .data, .data, .data, .data] true Rows.fnEqualDepthCard.stood.harness true
    fnEqualDepth.proved (fun _ h => by cases h) fnEqualDepth.c_wf (fun _ h => by cases h) fnEqualDepth_row_tie rfl ⟨rfl, rfl⟩ fnEqualDepth.c_main rfl
    (fun f fn hf hfn => by
      obtain rfl : f = 3 := Option.some.inj ((show Tryz.prog.funcNamed "given.example/pub-larkspur/laws.FnEqualDepth" = some 3 by kernel_rfl).symm.trans hf) |>.symm
      obtain rfl : fn = Tryz.f3 := (Option.some.inj (Tryz.func3.symm.trans hfn)).symm
      exact ⟨fnEqualDepth.c_looks, fun j t ht => by
        rw [Tryz.params3] at ht
        have h3 : t = 26 ∨ t = 3 := by
          rcases j with _ | _ | _ | j
          · left; simpa using ht.symm
          · left; simpa using ht.symm
          · right; simpa using ht.symm
          · simp at ht
        rcases h3 with rfl | rfl
        · exact (show Tryz.prog.wantsStandIn 26 = false by kernel_rfl)
        · exact (show Tryz.prog.wantsStandIn 3 = false by kernel_rfl)⟩)
    fnEqualDepth.c_goes
#print axioms equalDepthCard
end Go.Proofs.YtjkmppdmejgjiaaGreatDoor
