/- Floats: the native functions, the type switch of NumberToInt. -/
import Derived.Test.YtgohhebffcldeaaGreatDoorSpec2
import Derived.Stop.Asserts
set_option linter.unusedVariables false
set_option linter.unusedSimpArgs false
namespace Go.Proofs.YtgohhebffcldeaaGreatDoor
open Go.RowKit
open Num

theorem run_frombits (n : Int) (w : World) : (callFunc 35 #[.int .u64 n]).run Tryz.prog w = .ok (.value (.float .f64 n.toNat)) w := by kernel_rfl
theorem run_tobits (b : Nat) (w : World) : (callFunc 34 #[.float .f64 b]).run Tryz.prog w = .ok (.value (.int .u64 b)) w := by kernel_rfl
theorem assert_int_int (v : Value) (w : World) : (Instr.typeAssert (.iface 97 v) 55 97 true).run Tryz.prog w = .ok (.tuple #[v, .bool true]) w := by kernel_rfl
theorem assert_float_int (v : Value) (w : World) : (Instr.typeAssert (.iface 99 v) 55 97 true).run Tryz.prog w = .ok (.tuple #[.agg #[.int .i64 0, .pointer none], .bool false]) w := by kernel_rfl
theorem assert_float_float (v : Value) (w : World) : (Instr.typeAssert (.iface 99 v) 55 99 true).run Tryz.prog w = .ok (.tuple #[v, .bool true]) w := by kernel_rfl
theorem assert_string_int (v : Value) (w : World) : (Instr.typeAssert (.iface 101 v) 55 97 true).run Tryz.prog w = .ok (.tuple #[.agg #[.int .i64 0, .pointer none], .bool false]) w := by kernel_rfl
theorem assert_string_float (v : Value) (w : World) : (Instr.typeAssert (.iface 101 v) 55 99 true).run Tryz.prog w = .ok (.tuple #[.float .f64 0, .bool false]) w := by kernel_rfl
theorem assert_bool_int (v : Value) (w : World) : (Instr.typeAssert (.iface 92 v) 55 97 true).run Tryz.prog w = .ok (.tuple #[.agg #[.int .i64 0, .pointer none], .bool false]) w := by kernel_rfl
theorem assert_bool_float (v : Value) (w : World) : (Instr.typeAssert (.iface 92 v) 55 99 true).run Tryz.prog w = .ok (.tuple #[.float .f64 0, .bool false]) w := by kernel_rfl

end Go.Proofs.YtgohhebffcldeaaGreatDoor
