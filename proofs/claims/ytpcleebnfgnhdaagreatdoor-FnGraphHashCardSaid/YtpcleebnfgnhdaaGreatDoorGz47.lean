import Derived.Test.YtpcleebnfgnhdaaGreatDoorGz43
import Derived.Test.YtpcleebnfgnhdaaGreatDoorGz44
import Derived.Test.YtpcleebnfgnhdaaGreatDoorGz46
/- The law FnGraphHash, joined. -/
set_option linter.unusedVariables false
namespace Go.Proofs.YtpcleebnfgnhdaaGreatDoor
open Go.RowKit
open Num

theorem FnGraphHash_any (gs : Value) (root : Int) (w : World) (hkt : KT w) (hcl : CL w) (h : RawNds w gs) (hr1 : -9223372036854775808 ≤ root ∧ root ≤ 9223372036854775807) :
    Calls Tryz.prog 3 #[.agg #[gs, .int .i64 root]] w fun e w' => e = .returned (.bool true) ∧ Below w.heap.size w w' :=
  FnGraphHash_of gs root w hkt hcl h hr1 (fun W hb => CleanGraph_of gs root W (h.below hb) (fun k n a m c b s a2 m2 c2 gs root N S i nn w hx hg hS hn hi hnn hNK => cleanNode_head k n a m c b s a2 m2 c2 gs root N S i nn w hx hg hS hn hi hnn hNK))
end Go.Proofs.YtpcleebnfgnhdaaGreatDoor
