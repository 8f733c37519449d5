/- Plain: a double against 0; what an order tells; the value of a float. -/
import Derived.Test.YtgohhebffcldeaaGreatDoorFin
import Derived.Test.YtgohhebffcldeaaGreatDoorCmpP
import Derived.Test.YtgohhebffcldeaaGreatDoorFp
set_option linter.unusedVariables false
set_option linter.unusedSimpArgs false
namespace Go.Proofs.YtgohhebffcldeaaGreatDoor
open Go.RowKit
open Num

theorem read_zero : Ieee.double.read 0 = .number false 0 (-1074) := by decide
theorem lt_zero (B : Nat) (hB : B < 18446744073709551616) (hf : fexp B ≠ 2047) (hM : 0 < fman B) : (Ieee.double.order B 0 == some .lt) = fneg B := by
  unfold Ieee.Format.order
  rw [read_double B hB hf, read_zero, signed_cmp]
  cases hn : fneg B
  · rw [signed_false, signed_false, Nat.zero_mul]
    have : compare ((fman B * 2 ^ (fplace B - min (fplace B) (-1074)).toNat : Nat) : Int) ((0 : Nat) : Int) ≠ .lt := by
      intro h
      rw [Int.compare_eq_lt] at h
      have := Int.natCast_nonneg (fman B * 2 ^ (fplace B - min (fplace B) (-1074)).toNat)
      omega
    revert this
    generalize compare ((fman B * 2 ^ (fplace B - min (fplace B) (-1074)).toNat : Nat) : Int) ((0 : Nat) : Int) = c
    intro this
    cases c <;> simp_all
  · rw [signed_true, signed_false, Nat.zero_mul]
    have hp : 0 < fman B * 2 ^ (fplace B - min (fplace B) (-1074)).toNat := Nat.mul_pos hM (Nat.two_pow_pos _)
    have : compare (-((fman B * 2 ^ (fplace B - min (fplace B) (-1074)).toNat : Nat) : Int)) ((0 : Nat) : Int) = .lt := by
      rw [Int.compare_eq_lt]
      generalize fman B * 2 ^ (fplace B - min (fplace B) (-1074)).toNat = x at *
      omega
    rw [this]; rfl

theorem lt_zero0 (B : Nat) (hB : B < 18446744073709551616) (hf : fexp B ≠ 2047) (hM : fman B = 0) : (Ieee.double.order B 0 == some .lt) = false := by
  unfold Ieee.Format.order
  rw [read_double B hB hf, read_zero, signed_cmp, hM]
  cases fneg B
  · rw [signed_false, signed_false, Nat.zero_mul, Nat.zero_mul]; decide
  · rw [signed_true, signed_false, Nat.zero_mul, Nat.zero_mul]; decide

/-- the token of a comparison's number -/
def tokOf (op : Nat) : Int := if op = 13 then 37 else if op = 14 then 38 else if op = 15 then 33 else if op = 16 then 36 else if op = 17 then 34 else 35
/-- what an order tells to an operator -/
def opHolds (op : Nat) (c : Int) : Bool := if op = 13 then c == 0 else if op = 14 then c != 0 else if op = 15 then decide (c < 0) else if op = 16 then decide (c ≤ 0) else if op = 17 then decide (0 < c) else decide (0 ≤ c)

/-- an integer against any float: what is no number, and +Inf, are above all -/
def fcAll (x : Int) (B : Nat) : Int := if fexp B = 2047 then (if ffrac B ≠ 0 then -1 else if fneg B then 1 else -1) else fcmp x B

theorem inf_gt (B : Nat) (hB : B < 18446744073709551616) (hf : fexp B = 2047) (h0 : ffrac B = 0) : (FloatKind.f64.format.order B 0 == some .gt) = !fneg B := by
  show (Ieee.double.order B 0 == some .gt) = !fneg B
  unfold Ieee.Format.order
  rw [read_inf B hB hf h0, read_zero]
  cases fneg B <;> rfl
theorem nan_ne (B : Nat) (hB : B < 18446744073709551616) : (FloatKind.f64.format.order B B != some .eq) = decide (fexp B = 2047 ∧ ffrac B ≠ 0) := by
  show (Ieee.double.order B B != some .eq) = _
  rw [order_self B hB]
  split <;> simp_all

/-- a value that is a float -/
abbrev valFloat (B : Nat) : Value := .agg #[.int .i64 3, .bool false, .slice none 0 0, .int .u64 B, .string ⟨#[]⟩, .slice none 0 0]

theorem below_al0 (w : World) (O : Obj) : Below w.heap.size w (w.alloc O) := (Below.refl _ _).alloc (Nat.le_refl _) _
end Go.Proofs.YtgohhebffcldeaaGreatDoor
