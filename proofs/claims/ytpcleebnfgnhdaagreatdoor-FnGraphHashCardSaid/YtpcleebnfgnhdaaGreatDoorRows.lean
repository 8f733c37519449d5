/-
  NARROWER THAN 'FOR EVERY INPUT', by the rows' own cells (each row's printed sentence says how): FnGraphHash: laid · FnStructBack: loops, laid.
  DERIVED. THE GIVEN ROWS OF THIS SEAT. 2 by the template 'for every input the law returns true; each argument reads behind the call as it read before'; 0 by the template 'total and deterministic' (their statements: YtpcleebnfgnhdaaGreatDoorTotals.lean).
  GIVEN WITH THE SEED: the statements are not yours to turn. If you find one false, say at which input.
  Laid BY PROGRAM, IN A SANDBOX (cutbox-rows.mjs): the forced cells as the released guide's own fill.sh prints them over the translation 5e9f84087be59735… (all of the seat's roots in one cut). By AI agents, Wed Nov 11 2026. No macro, syntax, notation, axiom, sorry.
-/
import Derived.Test.YtpcleebnfgnhdaaGreatDoorChecked
import GoSem.Claim
import GoSem.ClaimJoined
import GoSem.ClaimMapViews
import Derived.JoinedTies
import Derived.KernelRfl
namespace Go.Proofs.YtpcleebnfgnhdaaGreatDoor
/- THE CELL 'sum', in the pinned program and in every row, IS THE sha256 OF THE DUMP (.gsa) THAT YtpcleebnfgnhdaaGreatDoorProg.lean LOADS. Nothing in Lean hashes anything: it is a label: what it is worth is what the hold of that sum in a sandbox is worth. -/
noncomputable def Tryz.pinned : Pinned := { name := "ytpcleebnfgnhdaagreatdoor", sum := "5e9f84087be597356e7a6f8c5980c75e80e0197a8fd2c39f20afa683b68d45b3", checked := Tryz.checked }
namespace Rows
def none {H : Type} : Left H := { results := [], args := [] }

/- WHAT THE LISTED PACKAGE-LEVEL VARIABLES READ AS WHEN THE CALL BEGINS. Each datum BY PROGRAM (the guide's laid-datum.mjs) off the statement by which the dump's own 'gosem.cut.vars' lays the variable. In a bare row this is a premise. The card (YtpcleebnfgnhdaaGreatDoorCards.lean) ties it to the program's text. -/
def laid_given_example_pub_larkspur_pub_bigall_divRecursiveThreshold {H : Type} : DataW H := .lit (.int .i64 40)
def laid_given_example_pub_larkspur_pub_bigall_karatsubaThreshold {H : Type} : DataW H := .lit (.int .i64 40)
def laid_given_example_pub_larkspur_pub_bigall_basicSqrThreshold {H : Type} : DataW H := .lit (.int .i64 12)
def laid_given_example_pub_larkspur_pub_bigall_karatsubaSqrThreshold {H : Type} : DataW H := .lit (.int .i64 80)
def laid_given_example_pub_larkspur_pub_starlark_starlark_CompareLimit {H : Type} : DataW H := .lit (.int .i64 10)

/-- 'laws.FnGraphHash': WHATEVER THE INPUT: true; the input reads as it did. -/
def fnGraphHashSpec : ChangeSpec := { name := "fnGraphHash", vars := ["given.example/pub-larkspur/pub/starlark/starlark.CompareLimit", "given.example/pub-larkspur/pub/bigall.divRecursiveThreshold", "given.example/pub-larkspur/pub/bigall.karatsubaThreshold", "given.example/pub-larkspur/pub/bigall.basicSqrThreshold", "given.example/pub-larkspur/pub/bigall.karatsubaSqrThreshold"], fn := fun _ => fun
  | [d, g1, g2, g3, g4, g5] => { results := [.lit (.bool true)], args := [d], vars := [g1, g2, g3, g4, g5] }
  | _ => none }
def fnGraphHashRow : OpenClaim := { program := "ytpcleebnfgnhdaagreatdoor", sum := "5e9f84087be597356e7a6f8c5980c75e80e0197a8fd2c39f20afa683b68d45b3", func := "given.example/pub-larkspur/laws.FnGraphHash", spec := "fnGraphHash", inPlace := ["math.Float64frombits", "math.Float64bits", "math/bits.Add64", "math/bits.Sub64"], unfollowed := true, recurses := true, named := ["given.example/pub-larkspur/pub/starlark/starlark.CompareLimit", "given.example/pub-larkspur/pub/bigall.divRecursiveThreshold", "given.example/pub-larkspur/pub/bigall.karatsubaThreshold", "given.example/pub-larkspur/pub/bigall.basicSqrThreshold", "given.example/pub-larkspur/pub/bigall.karatsubaSqrThreshold"], apart := false, laid := [("given.example/pub-larkspur/pub/bigall.divRecursiveThreshold", laid_given_example_pub_larkspur_pub_bigall_divRecursiveThreshold), ("given.example/pub-larkspur/pub/bigall.karatsubaThreshold", laid_given_example_pub_larkspur_pub_bigall_karatsubaThreshold), ("given.example/pub-larkspur/pub/bigall.basicSqrThreshold", laid_given_example_pub_larkspur_pub_bigall_basicSqrThreshold), ("given.example/pub-larkspur/pub/bigall.karatsubaSqrThreshold", laid_given_example_pub_larkspur_pub_bigall_karatsubaSqrThreshold), ("given.example/pub-larkspur/pub/starlark/starlark.CompareLimit", laid_given_example_pub_larkspur_pub_starlark_starlark_CompareLimit)] }
def FnGraphHashSaid : Prop := fnGraphHashRow.holds Tryz.pinned (OpenSpec.ofChange fnGraphHashSpec)

/-- ITS FALSE NEIGHBOUR: 'it returns false'. Refute it at one input. -/
def fnGraphHashWrong : ChangeSpec := { name := "fnGraphHash", vars := ["given.example/pub-larkspur/pub/starlark/starlark.CompareLimit", "given.example/pub-larkspur/pub/bigall.divRecursiveThreshold", "given.example/pub-larkspur/pub/bigall.karatsubaThreshold", "given.example/pub-larkspur/pub/bigall.basicSqrThreshold", "given.example/pub-larkspur/pub/bigall.karatsubaSqrThreshold"], fn := fun _ => fun
  | [d, g1, g2, g3, g4, g5] => { results := [.lit (.bool false)], args := [d], vars := [g1, g2, g3, g4, g5] }
  | _ => none }
def FnGraphHashWrongFalsely : Prop := fnGraphHashRow.holds Tryz.pinned (OpenSpec.ofChange fnGraphHashWrong)

/-- 'laws.FnStructBack': WHATEVER THE INPUT: true; the input reads as it did. -/
def fnStructBackSpec : ChangeSpec := { name := "fnStructBack", vars := ["given.example/pub-larkspur/pub/starlark/starlark.CompareLimit", "given.example/pub-larkspur/pub/bigall.divRecursiveThreshold", "given.example/pub-larkspur/pub/bigall.karatsubaThreshold", "given.example/pub-larkspur/pub/bigall.basicSqrThreshold", "given.example/pub-larkspur/pub/bigall.karatsubaSqrThreshold"], fn := fun _ => fun
  | [d1, d2, g1, g2, g3, g4, g5] => { results := [.lit (.bool true)], args := [d1, d2], vars := [g1, g2, g3, g4, g5] }
  | _ => none }
def fnStructBackRow : OpenClaim := { program := "ytpcleebnfgnhdaagreatdoor", sum := "5e9f84087be597356e7a6f8c5980c75e80e0197a8fd2c39f20afa683b68d45b3", func := "given.example/pub-larkspur/laws.FnStructBack", spec := "fnStructBack", inPlace := ["math.Float64frombits", "math.Float64bits", "math/bits.Add64", "math/bits.Sub64"], unfollowed := true, recurses := true, named := ["given.example/pub-larkspur/pub/starlark/starlark.CompareLimit", "given.example/pub-larkspur/pub/bigall.divRecursiveThreshold", "given.example/pub-larkspur/pub/bigall.karatsubaThreshold", "given.example/pub-larkspur/pub/bigall.basicSqrThreshold", "given.example/pub-larkspur/pub/bigall.karatsubaSqrThreshold"], loops := true, apart := false, laid := [("given.example/pub-larkspur/pub/bigall.divRecursiveThreshold", laid_given_example_pub_larkspur_pub_bigall_divRecursiveThreshold), ("given.example/pub-larkspur/pub/bigall.karatsubaThreshold", laid_given_example_pub_larkspur_pub_bigall_karatsubaThreshold), ("given.example/pub-larkspur/pub/bigall.basicSqrThreshold", laid_given_example_pub_larkspur_pub_bigall_basicSqrThreshold), ("given.example/pub-larkspur/pub/bigall.karatsubaSqrThreshold", laid_given_example_pub_larkspur_pub_bigall_karatsubaSqrThreshold), ("given.example/pub-larkspur/pub/starlark/starlark.CompareLimit", laid_given_example_pub_larkspur_pub_starlark_starlark_CompareLimit)] }
def FnStructBackSaid : Prop := fnStructBackRow.holds Tryz.pinned (OpenSpec.ofChange fnStructBackSpec)

/-- ITS FALSE NEIGHBOUR: 'it returns false'. Refute it at one input. -/
def fnStructBackWrong : ChangeSpec := { name := "fnStructBack", vars := ["given.example/pub-larkspur/pub/starlark/starlark.CompareLimit", "given.example/pub-larkspur/pub/bigall.divRecursiveThreshold", "given.example/pub-larkspur/pub/bigall.karatsubaThreshold", "given.example/pub-larkspur/pub/bigall.basicSqrThreshold", "given.example/pub-larkspur/pub/bigall.karatsubaSqrThreshold"], fn := fun _ => fun
  | [d1, d2, g1, g2, g3, g4, g5] => { results := [.lit (.bool false)], args := [d1, d2], vars := [g1, g2, g3, g4, g5] }
  | _ => none }
def FnStructBackWrongFalsely : Prop := fnStructBackRow.holds Tryz.pinned (OpenSpec.ofChange fnStructBackWrong)

/- THE SECOND FORM. 'bulk': how many values and letters a reading holds, each counted each time it is reached (what is shared counts as often as it is met; a slice's spare places count too). A statement '..UptoSaid' is the law's where the arguments, and the package variables that the reading takes, are together of bulk at most 1048576: NARROWER than '..Said'. Prove '..Said' where nothing that the law and all that it calls make is longer than what came in: it says more and counts as full. Else prove '..UptoSaid'. A law counts once. -/
mutual
def uptoBulk {H : Type} : DataW H → Nat
  | .lit (.string bytes) => bytes.length + 1
  | .lit _ => 1
  | .nil => 1
  | .ptr d => uptoBulk d + 1
  | .slice elems spare => uptoBulkAll elems + uptoBulkAll spare + 1
  | .agg parts => uptoBulkAll parts + 1
  | .iface _ d => uptoBulk d + 1
  | .map entries => uptoBulkEntries entries + 1
  | .held _ => 1
def uptoBulkAll {H : Type} : List (DataW H) → Nat
  | [] => 0
  | d :: r => uptoBulk d + uptoBulkAll r
def uptoBulkEntries {H : Type} : List (Lit × DataW H) → Nat
  | [] => 0
  | x :: r => uptoBulkEntry x + uptoBulkEntries r
def uptoBulkEntry {H : Type} : Lit × DataW H → Nat
  | (.string bytes, d) => bytes.length + uptoBulk d + 1
  | (_, d) => uptoBulk d + 1
 end
def uptoSmall : (H : Type) → List (DataW H) → Bool := fun _ ds => decide (uptoBulkAll ds ≤ 1048576)
def OpenSpec.upto (s : _root_.Go.ChangeSpec) : _root_.Go.OpenSpec := { _root_.Go.OpenSpec.ofChange s with cond := some uptoSmall }

/-- 'laws.FnGraphHash', WHERE WHAT IT READS IS OF BULK AT MOST 1048576: true; the input reads as it did. -/
def fnGraphHashUptoRow : OpenClaim := { program := "ytpcleebnfgnhdaagreatdoor", sum := "5e9f84087be597356e7a6f8c5980c75e80e0197a8fd2c39f20afa683b68d45b3", func := "given.example/pub-larkspur/laws.FnGraphHash", spec := "fnGraphHash", inPlace := ["math.Float64frombits", "math.Float64bits", "math/bits.Add64", "math/bits.Sub64"], unfollowed := true, recurses := true, named := ["given.example/pub-larkspur/pub/starlark/starlark.CompareLimit", "given.example/pub-larkspur/pub/bigall.divRecursiveThreshold", "given.example/pub-larkspur/pub/bigall.karatsubaThreshold", "given.example/pub-larkspur/pub/bigall.basicSqrThreshold", "given.example/pub-larkspur/pub/bigall.karatsubaSqrThreshold"], apart := false, laid := [("given.example/pub-larkspur/pub/bigall.divRecursiveThreshold", laid_given_example_pub_larkspur_pub_bigall_divRecursiveThreshold), ("given.example/pub-larkspur/pub/bigall.karatsubaThreshold", laid_given_example_pub_larkspur_pub_bigall_karatsubaThreshold), ("given.example/pub-larkspur/pub/bigall.basicSqrThreshold", laid_given_example_pub_larkspur_pub_bigall_basicSqrThreshold), ("given.example/pub-larkspur/pub/bigall.karatsubaSqrThreshold", laid_given_example_pub_larkspur_pub_bigall_karatsubaSqrThreshold), ("given.example/pub-larkspur/pub/starlark/starlark.CompareLimit", laid_given_example_pub_larkspur_pub_starlark_starlark_CompareLimit)], narrowed := true }
def FnGraphHashUptoSaid : Prop := fnGraphHashUptoRow.holds Tryz.pinned (OpenSpec.upto fnGraphHashSpec)

/-- 'laws.FnStructBack', WHERE WHAT IT READS IS OF BULK AT MOST 1048576: true; the input reads as it did. -/
def fnStructBackUptoRow : OpenClaim := { program := "ytpcleebnfgnhdaagreatdoor", sum := "5e9f84087be597356e7a6f8c5980c75e80e0197a8fd2c39f20afa683b68d45b3", func := "given.example/pub-larkspur/laws.FnStructBack", spec := "fnStructBack", inPlace := ["math.Float64frombits", "math.Float64bits", "math/bits.Add64", "math/bits.Sub64"], unfollowed := true, recurses := true, named := ["given.example/pub-larkspur/pub/starlark/starlark.CompareLimit", "given.example/pub-larkspur/pub/bigall.divRecursiveThreshold", "given.example/pub-larkspur/pub/bigall.karatsubaThreshold", "given.example/pub-larkspur/pub/bigall.basicSqrThreshold", "given.example/pub-larkspur/pub/bigall.karatsubaSqrThreshold"], loops := true, apart := false, laid := [("given.example/pub-larkspur/pub/bigall.divRecursiveThreshold", laid_given_example_pub_larkspur_pub_bigall_divRecursiveThreshold), ("given.example/pub-larkspur/pub/bigall.karatsubaThreshold", laid_given_example_pub_larkspur_pub_bigall_karatsubaThreshold), ("given.example/pub-larkspur/pub/bigall.basicSqrThreshold", laid_given_example_pub_larkspur_pub_bigall_basicSqrThreshold), ("given.example/pub-larkspur/pub/bigall.karatsubaSqrThreshold", laid_given_example_pub_larkspur_pub_bigall_karatsubaSqrThreshold), ("given.example/pub-larkspur/pub/starlark/starlark.CompareLimit", laid_given_example_pub_larkspur_pub_starlark_starlark_CompareLimit)], narrowed := true }
def FnStructBackUptoSaid : Prop := fnStructBackUptoRow.holds Tryz.pinned (OpenSpec.upto fnStructBackSpec)

end Rows
end Go.Proofs.YtpcleebnfgnhdaaGreatDoor
