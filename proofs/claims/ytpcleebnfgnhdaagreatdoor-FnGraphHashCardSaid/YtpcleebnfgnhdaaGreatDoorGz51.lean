import Derived.Test.YtpcleebnfgnhdaaGreatDoorCards
import Derived.Test.YtpcleebnfgnhdaaGreatDoorTie
import Derived.Test.YtpcleebnfgnhdaaGreatDoorGz49
import Derived.Test.YtpcleebnfgnhdaaGreatDoorGz50
import Derived.SevenTiedAt
/-
  PROVED HERE: the card of 'laws.FnGraphHash': the root of a graph (as cleaned) has a hash for the package just if what it unfolds to can be hashed for the specification.
  CONDITIONS: none beyond the row's own: the listed package variables hold what the program's text lays (tied).
-/
set_option linter.unusedVariables false
namespace Go.Proofs.YtpcleebnfgnhdaaGreatDoor
open Go

theorem graphHashCard : Rows.FnGraphHashCardSaid :=
  Claim7.holds_tied_plain_at .later [] [.data, .data, .data, .data, .data] true Rows.fnGraphHashCard.stood.harness true
    fnGraphHash.proved (fun _ h => by cases h) fnGraphHash.c_wf (fun _ h => by cases h) fnGraphHash_row_tie rfl ⟨rfl, rfl⟩ fnGraphHash.c_main rfl
    (fun f fn hf hfn => by
      obtain rfl : f = 3 := Option.some.inj ((show Tryz.prog.funcNamed "given.example/pub-larkspur/laws.FnGraphHash" = some 3 by kernel_rfl).symm.trans hf) |>.symm
      obtain rfl : fn = Tryz.f3 := (Option.some.inj (Tryz.func3.symm.trans hfn)).symm
      exact ⟨fnGraphHash.c_looks, fun j t ht => by
        rw [Tryz.params3] at ht
        have h3 : t = 24 := by
          rcases j with _ | j
          · simpa using ht.symm
          · simp at ht
        rw [h3]
        exact (show Tryz.prog.wantsStandIn 24 = false by kernel_rfl)⟩)
    fnGraphHash.c_goes
#print axioms graphHashCard
end Go.Proofs.YtpcleebnfgnhdaaGreatDoor
