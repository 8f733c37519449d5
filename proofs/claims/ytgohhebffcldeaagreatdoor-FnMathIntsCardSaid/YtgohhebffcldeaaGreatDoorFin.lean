/- Walks: math.IsNaN, IsInf, Abs; spec.Finite, floatParts, bytesOf. -/
import Derived.Test.YtgohhebffcldeaaGreatDoorFl
import Derived.Test.YtgohhebffcldeaaGreatDoorFp
import Derived.Laws.Bits64b
set_option linter.unusedVariables false
set_option linter.unusedSimpArgs false
namespace Go.Proofs.YtgohhebffcldeaaGreatDoor
open Go.RowKit
open Num

theorem andNot_sign (B : Nat) (hB : B < 18446744073709551616) : bits .andNot .u64 (B : Int) 9223372036854775808 = ((B % 9223372036854775808 : Nat) : Int) := by
  have h1 : (BitVec.ofInt 64 (B : Int)).toNat = B := by
    rw [BitVec.ofInt_natCast, BitVec.toNat_ofNat]; exact Nat.mod_eq_of_lt (by omega)
  have h2 : (~~~ (BitVec.ofInt 64 9223372036854775808)).toNat = 9223372036854775807 := by decide
  show IntKind.u64.wrap ((BitVec.ofInt 64 (B : Int) &&& ~~~ (BitVec.ofInt 64 9223372036854775808)).toNat : Int) = _
  rw [BitVec.toNat_and, h1, h2, IntKind.wrap_u64]
  have h3 : B &&& 9223372036854775807 = B % 9223372036854775808 := Nat.and_two_pow_sub_one_eq_mod B 63
  rw [h3]
  omega
theorem and_2047 (x : Nat) (hx : x < 18446744073709551616) : bits .and .u64 (x : Int) 2047 = ((x % 2048 : Nat) : Int) := by
  have := bits_and_u64_nat x 2047 hx (by decide)
  rw [show x &&& 2047 = x % 2048 from Nat.and_two_pow_sub_one_eq_mod x 11] at this
  exact this
theorem and_frac (x : Nat) (hx : x < 18446744073709551616) : bits .and .u64 (x : Int) 4503599627370495 = ((x % 4503599627370496 : Nat) : Int) := by
  have := bits_and_u64_nat x 4503599627370495 hx (by decide)
  rw [show x &&& 4503599627370495 = x % 4503599627370496 from Nat.and_two_pow_sub_one_eq_mod x 52] at this
  exact this
theorem or_hidden (x : Nat) (hx : x < 4503599627370496) : bits .or .u64 (x : Int) 4503599627370496 = ((x + 4503599627370496 : Nat) : Int) := by
  have := bits_or_u64_nat x 4503599627370496 (by omega) (by decide)
  have h2 : x ||| 4503599627370496 = x + 4503599627370496 := by
    have := Nat.two_pow_add_eq_or_of_lt (i := 52) (b := x) hx 1
    rw [Nat.or_comm]
    have e : (2 : Nat) ^ 52 * 1 = 4503599627370496 := by decide
    rw [e] at this
    omega
  rw [h2] at this
  exact this

theorem IsNaN_any (B : Nat) (hB : B < 18446744073709551616) (w : World) :
    Calls Tryz.prog 33 #[.float .f64 B] w fun e w' => e = .returned (.bool (decide (fexp B = 2047 ∧ ffrac B ≠ 0))) ∧ w' = w := by
  go_enter Tryz.func33, Tryz.ntmps33
  go_wp2
  go_ret
  refine ⟨ret_bool ?_, rfl⟩
  show (Ieee.double.order B B != some .eq) = _
  rw [order_self B hB]
  split <;> simp_all

theorem Abs_any (B : Nat) (hB : B < 18446744073709551616) (w : World) :
    Calls Tryz.prog 13 #[.float .f64 B] w fun e w' => e = .returned (.float .f64 (B % 9223372036854775808)) ∧ w' = w := by
  have h1 := run_tobits B
  have h2 : ∀ n : Int, ∀ W : World, (callFunc 35 #[.int .u64 n]).run Tryz.prog W = .ok (.value (.float .f64 n.toNat)) W := run_frombits
  go_enter Tryz.func13, Tryz.ntmps13
  go_wp2
  go_ret
  rw [andNot_sign B hB]
  exact ⟨by simp; omega, rfl⟩

theorem IsInf_any (B : Nat) (hB : B < 18446744073709551616) (hn : ¬ (fexp B = 2047 ∧ ffrac B ≠ 0)) (w : World) :
    Calls Tryz.prog 60 #[.float .f64 B, .int .i64 0] w fun e w' => e = .returned (.bool (decide (fexp B = 2047))) ∧ w' = w := by
  have ex : fexp (B % 9223372036854775808) = fexp B := by unfold fexp; omega
  have ef : ffrac (B % 9223372036854775808) = ffrac B := by unfold ffrac; omega
  have hg := gt_max (B % 9223372036854775808) (by omega) (by rw [ex, ef]; exact hn)
  rw [ex] at hg
  have HG := Lib.hid hg; clear hg hn ex ef
  have HA := Lib.hid (Abs_any B hB w)
  go_enter Tryz.func60, Tryz.ntmps60
  go_wp2_with fail
  refine HA.out.mono ?_
  rintro e w' ⟨rfl, rfl⟩
  go_wp2
  go_ret
  exact ⟨ret_bool HG.out, rfl⟩

theorem Finite_any (B : Nat) (hB : B < 18446744073709551616) (w : World) :
    Calls Tryz.prog 21 #[.float .f64 B] w fun e w' => e = .returned (.bool (decide (fexp B ≠ 2047))) ∧ w' = w := by
  have HN := Lib.hid (IsNaN_any B hB w)
  by_cases hn : fexp B = 2047 ∧ ffrac B ≠ 0
  · have hd : decide (fexp B = 2047 ∧ ffrac B ≠ 0) = true := by simp [hn]
    rw [hd] at HN
    have hd2 : decide (fexp B ≠ 2047) = false := by simp [hn.1]
    rw [hd2]
    clear hn hd hd2
    go_enter Tryz.func21, Tryz.ntmps21
    go_wp2_with fail
    refine HN.out.mono ?_
    rintro e w' ⟨rfl, rfl⟩
    go_wp2
    go_ret
    first | done | exact ⟨rfl, rfl⟩ | rfl
  · have hd : decide (fexp B = 2047 ∧ ffrac B ≠ 0) = false := by simp; intro h; simpa using fun q => hn ⟨h, q⟩
    rw [hd] at HN
    have HI := Lib.hid (IsInf_any B hB hn w)
    clear hn hd
    go_enter Tryz.func21, Tryz.ntmps21
    go_wp2_with fail
    refine HN.out.mono ?_
    rintro e w' ⟨rfl, rfl⟩
    go_wp2_with fail
    refine HI.out.mono ?_
    rintro e w2 ⟨rfl, rfl⟩
    go_wp2
    go_ret
    refine ⟨ret_bool ?_, rfl⟩
    by_cases h : fexp B = 2047 <;> simp [h]

end Go.Proofs.YtgohhebffcldeaaGreatDoor
