import Derived.Test.YtjkmppdmejgjiaaGreatDoorEz1
import Derived.Laws.FloatArith
import Derived.Test.YtjkmppdmejgjiaaGreatDoorEz4
import Derived.Laws.Bits64b
/- Floats in plain Lean: what a double's bits stand for; its order; no program in sight. -/
set_option linter.unusedVariables false
set_option linter.unusedSimpArgs false
namespace Go.Proofs.YtjkmppdmejgjiaaGreatDoor
namespace Num
open Ieee

/-- the parts of a double -/
def fneg (B : Nat) : Bool := B / 9223372036854775808 == 1
def fexp (B : Nat) : Nat := B / 4503599627370496 % 2048
def ffrac (B : Nat) : Nat := B % 4503599627370496
def fman (B : Nat) : Nat := if fexp B = 0 then ffrac B else ffrac B + 4503599627370496
def fplace (B : Nat) : Int := if fexp B = 0 then -1074 else (fexp B : Int) - 1075

theorem fexp_lt (B : Nat) : fexp B < 2048 := Nat.mod_lt _ (by decide)
theorem ffrac_lt (B : Nat) : ffrac B < 4503599627370496 := Nat.mod_lt _ (by decide)
theorem fman_lt (B : Nat) : fman B < 9007199254740992 := by
  have := ffrac_lt B
  unfold fman
  split <;> omega
theorem fplace_ge (B : Nat) : -1074 ≤ fplace B := by unfold fplace; split <;> omega

theorem read_double (B : Nat) (hB : B < 18446744073709551616) (hf : fexp B ≠ 2047) : double.read B = .number (fneg B) (fman B) (fplace B) := by
  have hsw : double.signWeight = 9223372036854775808 := by decide
  have hbn : double.binade = 4503599627370496 := by decide
  have hir : double.infRung = 9218868437227405312 := by decide
  have hlp : double.leastPlace = -1074 := by decide
  have hneg : (B / 9223372036854775808 % 2 == 1) = fneg B := by
    unfold fneg
    have : B / 9223372036854775808 < 2 := by omega
    rw [Nat.mod_eq_of_lt this]
  have hr : B % 9223372036854775808 = fexp B * 4503599627370496 + ffrac B := by unfold fexp ffrac; omega
  have h1 := fexp_lt B
  have h2 := ffrac_lt B
  unfold Format.read
  simp only [hsw, hbn, hir, hlp, hneg, hr]
  by_cases h0 : fexp B = 0
  · rw [if_pos (by omega)]
    unfold fman fplace
    rw [if_pos h0, if_pos h0, h0]
    simp
  · rw [if_neg (by omega), if_pos (by omega)]
    unfold fman fplace
    rw [if_neg h0, if_neg h0]
    have e1 : (fexp B * 4503599627370496 + ffrac B) % 4503599627370496 = ffrac B := by omega
    have e2 : (fexp B * 4503599627370496 + ffrac B) / 4503599627370496 = fexp B := by omega
    rw [e1, e2]
    congr 1 <;> omega
theorem read_inf (B : Nat) (hB : B < 18446744073709551616) (hf : fexp B = 2047) (h0 : ffrac B = 0) : double.read B = .infinity (fneg B) := by
  have hsw : double.signWeight = 9223372036854775808 := by decide
  have hbn : double.binade = 4503599627370496 := by decide
  have hir : double.infRung = 9218868437227405312 := by decide
  have hneg : (B / 9223372036854775808 % 2 == 1) = fneg B := by
    unfold fneg
    have : B / 9223372036854775808 < 2 := by omega
    rw [Nat.mod_eq_of_lt this]
  have hr : B % 9223372036854775808 = fexp B * 4503599627370496 + ffrac B := by unfold fexp ffrac; omega
  unfold Format.read
  simp only [hsw, hbn, hir, hneg, hr, hf, h0]
  simp
theorem read_nan (B : Nat) (hB : B < 18446744073709551616) (hf : fexp B = 2047) (h0 : ffrac B ≠ 0) : double.read B = .nan (fneg B) (ffrac B) := by
  have hsw : double.signWeight = 9223372036854775808 := by decide
  have hbn : double.binade = 4503599627370496 := by decide
  have hir : double.infRung = 9218868437227405312 := by decide
  have hneg : (B / 9223372036854775808 % 2 == 1) = fneg B := by
    unfold fneg
    have : B / 9223372036854775808 < 2 := by omega
    rw [Nat.mod_eq_of_lt this]
  have hr : B % 9223372036854775808 = fexp B * 4503599627370496 + ffrac B := by unfold fexp ffrac; omega
  have h2 := ffrac_lt B
  unfold Format.read
  obtain ⟨q, hq⟩ : ∃ q, q = 2047 * 4503599627370496 + ffrac B := ⟨_, rfl⟩
  have c1 : ¬ (q < 4503599627370496) := by omega
  have c2 : ¬ (q < 9218868437227405312) := by omega
  have c3 : ¬ (q = 9218868437227405312) := by omega
  have c4 : q - 9218868437227405312 = ffrac B := by omega
  simp only [hsw, hbn, hir, hneg, hr, hf, ← hq, c1, c2, c3, c4, if_false]

theorem order_self (B : Nat) (hB : B < 18446744073709551616) : double.order B B = if fexp B = 2047 ∧ ffrac B ≠ 0 then none else some .eq := by
  unfold Format.order
  by_cases h : fexp B = 2047
  · by_cases h0 : ffrac B = 0
    · rw [read_inf B hB h h0, if_neg (by simp [h0])]
      simp [Datum.order]
    · rw [read_nan B hB h h0, if_pos ⟨h, h0⟩]
      simp [Datum.order]
  · rw [read_double B hB h, if_neg (fun q => h q.1)]
    simp [Datum.order]

theorem signed_cmp (s : Bool) (m : Nat) (i : Int) (t : Bool) (n : Nat) (j : Int) : Datum.order (.number s m i) (.number t n j) = some (compare (signed s m (i - min i j).toNat) (signed t n (j - min i j).toNat)) := rfl

theorem signed_false (m u : Nat) : signed false m u = ((m * 2 ^ u : Nat) : Int) := by simp [signed, Nat.shiftLeft_eq]
theorem signed_true (m u : Nat) : signed true m u = -((m * 2 ^ u : Nat) : Int) := by simp [signed, Nat.shiftLeft_eq]
theorem fplace_hi {B : Nat} (h : 0 ≤ fplace B) : 4503599627370496 ≤ fman B := by
  unfold fplace at h
  split at h
  · omega
  · rename_i h0
    unfold fman
    rw [if_neg h0]
    omega

/-- the double 2^63 -/
theorem read_2_63 : double.read 4890909195324358656 = .number false 4503599627370496 11 := by decide
theorem read_m2_63 : double.read 14114281232179134464 = .number true 4503599627370496 11 := by decide
theorem read_max : double.read 9218868437227405311 = .number false 9007199254740991 971 := by decide

theorem pow_base (p q : Int) (h : p ≤ q) : (p - min p q).toNat = 0 ∧ (q - min p q).toNat = (q - p).toNat := by
  rw [Int.min_eq_left h]; omega

/-- x < 2^63 -/
theorem lt_2_63 (B : Nat) (hB : B < 18446744073709551616) (hf : fexp B ≠ 2047) : (double.order B 4890909195324358656 == some .lt) = (fneg B || decide (fplace B ≤ 10)) := by
  unfold Format.order
  rw [read_double B hB hf, read_2_63, signed_cmp]
  have hM := fman_lt B
  cases hn : fneg B
  · rw [signed_false, signed_false]
    by_cases hp : fplace B ≤ 10
    · obtain ⟨e1, e2⟩ := pow_base (fplace B) 11 (by omega)
      rw [e1, e2]
      have h2 : 2 ^ 1 ≤ 2 ^ (11 - fplace B).toNat := Nat.pow_le_pow_right (by omega) (by omega)
      have h3 : 4503599627370496 * 2 ≤ 4503599627370496 * 2 ^ (11 - fplace B).toNat := Nat.mul_le_mul_left _ (by simpa using h2)
      have hlt : fman B * 2 ^ 0 < 4503599627370496 * 2 ^ (11 - fplace B).toNat := by omega
      have : compare ((fman B * 2 ^ 0 : Nat) : Int) ((4503599627370496 * 2 ^ (11 - fplace B).toNat : Nat) : Int) = .lt := by
        rw [Int.compare_eq_lt]; exact Int.ofNat_lt.2 hlt
      rw [this]; simp [hp]
    · have h4 := fplace_hi (B := B) (by omega)
      have e1 : (11 - min (fplace B) 11).toNat = 0 := by rw [Int.min_eq_right (by omega)]; omega
      rw [e1]
      have h2 : 1 ≤ 2 ^ (fplace B - min (fplace B) 11).toNat := Nat.one_le_two_pow
      have h3 : fman B * 1 ≤ fman B * 2 ^ (fplace B - min (fplace B) 11).toNat := Nat.mul_le_mul_left _ h2
      have hge : 4503599627370496 * 2 ^ 0 ≤ fman B * 2 ^ (fplace B - min (fplace B) 11).toNat := by omega
      have : compare ((fman B * 2 ^ (fplace B - min (fplace B) 11).toNat : Nat) : Int) ((4503599627370496 * 2 ^ 0 : Nat) : Int) ≠ .lt := by
        intro h
        rw [Int.compare_eq_lt] at h
        have := Int.ofNat_lt.1 h
        omega
      revert this
      generalize compare ((fman B * 2 ^ (fplace B - min (fplace B) 11).toNat : Nat) : Int) ((4503599627370496 * 2 ^ 0 : Nat) : Int) = c
      intro this
      cases c <;> simp_all
  · rw [signed_true, signed_false]
    have h2 : 1 ≤ 2 ^ (11 - min (fplace B) 11).toNat := Nat.one_le_two_pow
    have h3 : 4503599627370496 * 1 ≤ 4503599627370496 * 2 ^ (11 - min (fplace B) 11).toNat := Nat.mul_le_mul_left _ h2
    have : compare (-((fman B * 2 ^ (fplace B - min (fplace B) 11).toNat : Nat) : Int)) ((4503599627370496 * 2 ^ (11 - min (fplace B) 11).toNat : Nat) : Int) = .lt := by
      rw [Int.compare_eq_lt]
      have := Int.natCast_nonneg (fman B * 2 ^ (fplace B - min (fplace B) 11).toNat)
      omega
    rw [this]; simp

/-- -2^63 ≤ x -/
theorem ge_m2_63 (B : Nat) (hB : B < 18446744073709551616) (hf : fexp B ≠ 2047) : (double.order 14114281232179134464 B == some .lt || double.order 14114281232179134464 B == some .eq) = (!fneg B || decide (fplace B ≤ 10) || decide (fplace B = 11 ∧ fman B = 4503599627370496)) := by
  unfold Format.order
  rw [read_double B hB hf, read_m2_63, signed_cmp]
  have hM := fman_lt B
  cases hn : fneg B
  · rw [signed_true, signed_false]
    have h2 : 1 ≤ 2 ^ (11 - min 11 (fplace B)).toNat := Nat.one_le_two_pow
    have h3 : 4503599627370496 * 1 ≤ 4503599627370496 * 2 ^ (11 - min 11 (fplace B)).toNat := Nat.mul_le_mul_left _ h2
    have : compare (-((4503599627370496 * 2 ^ (11 - min 11 (fplace B)).toNat : Nat) : Int)) ((fman B * 2 ^ (fplace B - min 11 (fplace B)).toNat : Nat) : Int) = .lt := by
      rw [Int.compare_eq_lt]
      have := Int.natCast_nonneg (fman B * 2 ^ (fplace B - min 11 (fplace B)).toNat)
      omega
    rw [this]; simp
  · rw [signed_true, signed_true]
    by_cases hp : fplace B ≤ 10
    · have e1 : (fplace B - min 11 (fplace B)).toNat = 0 := by rw [Int.min_eq_right (by omega)]; omega
      have e2 : (11 - min 11 (fplace B)).toNat = (11 - fplace B).toNat := by rw [Int.min_eq_right (by omega)]
      rw [e1, e2]
      have h2 : 2 ^ 1 ≤ 2 ^ (11 - fplace B).toNat := Nat.pow_le_pow_right (by omega) (by omega)
      have h3 : 4503599627370496 * 2 ≤ 4503599627370496 * 2 ^ (11 - fplace B).toNat := Nat.mul_le_mul_left _ (by simpa using h2)
      have hlt : fman B * 2 ^ 0 < 4503599627370496 * 2 ^ (11 - fplace B).toNat := by omega
      have : compare (-((4503599627370496 * 2 ^ (11 - fplace B).toNat : Nat) : Int)) (-((fman B * 2 ^ 0 : Nat) : Int)) = .lt := by
        rw [Int.compare_eq_lt]
        have := Int.ofNat_lt.2 hlt
        omega
      rw [this]; simp [hp]
    · have h4 := fplace_hi (B := B) (by omega)
      have e1 : (11 - min 11 (fplace B)).toNat = 0 := by rw [Int.min_eq_left (by omega)]; omega
      have e2 : (fplace B - min 11 (fplace B)).toNat = (fplace B - 11).toNat := by rw [Int.min_eq_left (by omega)]
      rw [e1, e2]
      by_cases hq : fplace B = 11 ∧ fman B = 4503599627370496
      · rw [hq.1, hq.2]; simp
      · have hgt : 4503599627370496 * 2 ^ 0 < fman B * 2 ^ (fplace B - 11).toNat := by
          by_cases h11 : fplace B = 11
          · have : fman B ≠ 4503599627370496 := fun e => hq ⟨h11, e⟩
            rw [h11]; simp; omega
          · have h2 : 2 ^ 1 ≤ 2 ^ (fplace B - 11).toNat := Nat.pow_le_pow_right (by omega) (by omega)
            have h3 : fman B * 2 ≤ fman B * 2 ^ (fplace B - 11).toNat := Nat.mul_le_mul_left _ (by simpa using h2)
            omega
        have : compare (-((4503599627370496 * 2 ^ 0 : Nat) : Int)) (-((fman B * 2 ^ (fplace B - 11).toNat : Nat) : Int)) = .gt := by
          rw [Int.compare_eq_gt]
          have := Int.ofNat_lt.2 hgt
          omega
        rw [this]; simp [hp, hq]

/-- |x| > the greatest double -/
theorem gt_max (A : Nat) (hA : A < 9223372036854775808) (hn : ¬ (fexp A = 2047 ∧ ffrac A ≠ 0)) : (double.order A 9218868437227405311 == some .gt) = decide (fexp A = 2047) := by
  have hneg : fneg A = false := by unfold fneg; rw [Nat.div_eq_of_lt hA]; rfl
  unfold Format.order
  rw [read_max]
  by_cases hf : fexp A = 2047
  · have h0 : ffrac A = 0 := by
      rcases Nat.eq_zero_or_pos (ffrac A) with h | h
      · exact h
      · exact absurd ⟨hf, by omega⟩ hn
    rw [read_inf A (by omega) hf h0, hneg]
    simp [Datum.order, hf]
  · rw [read_double A (by omega) hf, signed_cmp, hneg, signed_false, signed_false]
    have hM := fman_lt A
    have hp : fplace A ≤ 971 := by
      have := fexp_lt A
      unfold fplace; split <;> omega
    obtain ⟨e1, e2⟩ := pow_base (fplace A) 971 hp
    rw [e1, e2]
    have h2 : 1 ≤ 2 ^ (971 - fplace A).toNat := Nat.one_le_two_pow
    have h3 : 9007199254740991 * 1 ≤ 9007199254740991 * 2 ^ (971 - fplace A).toNat := Nat.mul_le_mul_left _ h2
    have hle : fman A * 2 ^ 0 ≤ 9007199254740991 * 2 ^ (971 - fplace A).toNat := by omega
    have : compare ((fman A * 2 ^ 0 : Nat) : Int) ((9007199254740991 * 2 ^ (971 - fplace A).toNat : Nat) : Int) ≠ .gt := by
      intro h
      rw [Int.compare_eq_gt] at h
      have := Int.ofNat_lt.1 h
      omega
    revert this
    generalize compare ((fman A * 2 ^ 0 : Nat) : Int) ((9007199254740991 * 2 ^ (971 - fplace A).toNat : Nat) : Int) = c
    intro this
    cases c <;> simp_all

/-- the whole part of a double's magnitude -/
def fwhole (B : Nat) : Nat := if 0 ≤ fplace B then fman B * 2 ^ (fplace B).toNat else fman B / 2 ^ (-fplace B).toNat
theorem cut_zero (neg : Bool) (n drop : Nat) : Toward.zero.cut neg n drop = n / 2 ^ drop := by
  unfold Toward.cut
  simp only [Nat.one_shiftLeft, Bool.toNat_false, Nat.add_zero]
  by_cases h : drop ≤ n.log2 + 2
  · rw [Nat.min_eq_left h]
  · rw [Nat.min_eq_right (by omega)]
    have h1 : n < 2 ^ (n.log2 + 2) := Nat.lt_of_lt_of_le Nat.lt_log2_self (Nat.pow_le_pow_right (by omega) (by omega))
    have h2 : n < 2 ^ drop := Nat.lt_of_lt_of_le h1 (Nat.pow_le_pow_right (by omega) (by omega))
    rw [Nat.div_eq_of_lt h1, Nat.div_eq_of_lt h2]
theorem toInt_double (B : Nat) (hB : B < 18446744073709551616) (hf : fexp B ≠ 2047) : (double.read B).toInt .zero = some (if fneg B then -(fwhole B : Int) else (fwhole B : Int)) := by
  rw [read_double B hB hf]
  unfold Datum.toInt Datum.integral
  simp only [cut_zero, Nat.shiftLeft_eq]
  have hw : fman B * 2 ^ (fplace B).toNat / 2 ^ (-fplace B).toNat = fwhole B := by
    unfold fwhole
    by_cases h : 0 ≤ fplace B
    · rw [if_pos h, show (-fplace B).toNat = 0 by omega]; simp
    · rw [if_neg h, show (fplace B).toNat = 0 by omega]; simp
  rw [hw]
  cases fneg B
  · simp [signed_false]
  · simp [signed_true]

end Num
end Go.Proofs.YtjkmppdmejgjiaaGreatDoor

/- Walks: math.IsNaN, IsInf, Abs; spec.Finite, floatParts, bytesOf. -/
set_option linter.unusedVariables false
set_option linter.unusedSimpArgs false
namespace Go.Proofs.YtjkmppdmejgjiaaGreatDoor
open Go.RowKit
open Num

theorem andNot_sign (B : Nat) (hB : B < 18446744073709551616) : bits .andNot .u64 (B : Int) 9223372036854775808 = ((B % 9223372036854775808 : Nat) : Int) := by
  have h1 : (BitVec.ofInt 64 (B : Int)).toNat = B := by
    rw [BitVec.ofInt_natCast, BitVec.toNat_ofNat]; exact Nat.mod_eq_of_lt (by omega)
  have h2 : (~~~ (BitVec.ofInt 64 9223372036854775808)).toNat = 9223372036854775807 := by decide
  show IntKind.u64.wrap ((BitVec.ofInt 64 (B : Int) &&& ~~~ (BitVec.ofInt 64 9223372036854775808)).toNat : Int) = _
  rw [BitVec.toNat_and, h1, h2, IntKind.wrap_u64]
  have h3 : B &&& 9223372036854775807 = B % 9223372036854775808 := Nat.and_two_pow_sub_one_eq_mod B 63
  rw [h3]
  omega
theorem and_2047 (x : Nat) (hx : x < 18446744073709551616) : bits .and .u64 (x : Int) 2047 = ((x % 2048 : Nat) : Int) := by
  have := bits_and_u64_nat x 2047 hx (by decide)
  rw [show x &&& 2047 = x % 2048 from Nat.and_two_pow_sub_one_eq_mod x 11] at this
  exact this
theorem and_frac (x : Nat) (hx : x < 18446744073709551616) : bits .and .u64 (x : Int) 4503599627370495 = ((x % 4503599627370496 : Nat) : Int) := by
  have := bits_and_u64_nat x 4503599627370495 hx (by decide)
  rw [show x &&& 4503599627370495 = x % 4503599627370496 from Nat.and_two_pow_sub_one_eq_mod x 52] at this
  exact this
theorem or_hidden (x : Nat) (hx : x < 4503599627370496) : bits .or .u64 (x : Int) 4503599627370496 = ((x + 4503599627370496 : Nat) : Int) := by
  have := bits_or_u64_nat x 4503599627370496 (by omega) (by decide)
  have h2 : x ||| 4503599627370496 = x + 4503599627370496 := by
    have := Nat.two_pow_add_eq_or_of_lt (i := 52) (b := x) hx 1
    rw [Nat.or_comm]
    have e : (2 : Nat) ^ 52 * 1 = 4503599627370496 := by decide
    rw [e] at this
    omega
  rw [h2] at this
  exact this

theorem IsNaN_any (B : Nat) (hB : B < 18446744073709551616) (w : World) :
    Calls Tryz.prog 63 #[.float .f64 B] w fun e w' => e = .returned (.bool (decide (fexp B = 2047 ∧ ffrac B ≠ 0))) ∧ w' = w := by
  go_enter Tryz.func63, Tryz.ntmps63
  go_wp2
  go_ret
  refine ⟨ret_bool ?_, rfl⟩
  show (Ieee.double.order B B != some .eq) = _
  rw [order_self B hB]
  split <;> simp_all

theorem Abs_any (B : Nat) (hB : B < 18446744073709551616) (w : World) :
    Calls Tryz.prog 71 #[.float .f64 B] w fun e w' => e = .returned (.float .f64 (B % 9223372036854775808)) ∧ w' = w := by
  have h1 := run_tobits B
  have h2 : ∀ n : Int, ∀ W : World, (callFunc 65 #[.int .u64 n]).run Tryz.prog W = .ok (.value (.float .f64 n.toNat)) W := run_frombits
  go_enter Tryz.func71, Tryz.ntmps71
  go_wp2
  go_ret
  rw [andNot_sign B hB]
  exact ⟨by simp; omega, rfl⟩

theorem IsInf_any (B : Nat) (hB : B < 18446744073709551616) (hn : ¬ (fexp B = 2047 ∧ ffrac B ≠ 0)) (w : World) :
    Calls Tryz.prog 57 #[.float .f64 B, .int .i64 0] w fun e w' => e = .returned (.bool (decide (fexp B = 2047))) ∧ w' = w := by
  have ex : fexp (B % 9223372036854775808) = fexp B := by unfold fexp; omega
  have ef : ffrac (B % 9223372036854775808) = ffrac B := by unfold ffrac; omega
  have hg := gt_max (B % 9223372036854775808) (by omega) (by rw [ex, ef]; exact hn)
  rw [ex] at hg
  have HG := Lib.hid hg; clear hg hn ex ef
  have HA := Lib.hid (Abs_any B hB w)
  go_enter Tryz.func57, Tryz.ntmps57
  go_wp2_with fail
  refine HA.out.mono ?_
  rintro e w' ⟨rfl, rfl⟩
  go_wp2
  go_ret
  exact ⟨ret_bool HG.out, rfl⟩

end Go.Proofs.YtjkmppdmejgjiaaGreatDoor

/- Walks: spec.floatParts, bytesOf, Power, Zero, digit. -/
set_option linter.unusedVariables false
set_option linter.unusedSimpArgs false
namespace Go.Proofs.YtjkmppdmejgjiaaGreatDoor
open Go.RowKit
open Num

theorem floatParts_any (B : Nat) (hB : B < 18446744073709551616) (w : World) :
    Calls Tryz.prog 81 #[.float .f64 B] w fun e w' => e = .returned (.tuple #[.bool (fneg B), .int .u64 (fman B : Nat), .int .i64 (fplace B)]) ∧ w' = w := by
  have h1 : bits .and .u64 ((B : Int) / 4503599627370496) 2047 = (fexp B : Int) := by
    have := and_2047 (B / 4503599627370496) (by omega)
    rw [Int.natCast_ediv] at this
    exact this
  have h2 : bits .and .u64 (B : Int) 4503599627370495 = (ffrac B : Int) := and_frac B hB
  have h3 : (((B : Int) / 9223372036854775808) == 1) = fneg B := by
    unfold fneg
    by_cases h : B / 9223372036854775808 = 1
    · have : ((B : Int) / 9223372036854775808) = 1 := by omega
      simp [h, this]
    · have : ((B : Int) / 9223372036854775808) ≠ 1 := by omega
      rw [beq_eq_false_iff_ne.2 this, beq_eq_false_iff_ne.2 h]
  have h4 : bits .or .u64 (ffrac B : Int) 4503599627370496 = ((ffrac B + 4503599627370496 : Nat) : Int) := or_hidden _ (ffrac_lt B)
  have hb := run_tobits B
  have hx := fexp_lt B
  have h1b : (fexp B : Int) ≤ 2047 := by omega
  by_cases h0 : fexp B = 0
  · have hm : fman B = ffrac B := by unfold fman; rw [if_pos h0]
    have hp : fplace B = -1074 := by unfold fplace; rw [if_pos h0]
    have h5 : ((fexp B : Int) == 0) = true := by rw [h0]; rfl
    rw [hm, hp]
    clear h0 hm hp hx
    go_enter Tryz.func81, Tryz.ntmps81
    go_wp2
    exact bodyPost_ret (v := .tuple #[.bool (fneg B), .int .u64 (ffrac B : Nat), .int .i64 (-1074)]) (by simp [results, Tryz.results81, go_sem]) rfl ⟨rfl, rfl⟩
  · have hm : fman B = ffrac B + 4503599627370496 := by unfold fman; rw [if_neg h0]
    have hp : fplace B = (fexp B : Int) - 1075 := by unfold fplace; rw [if_neg h0]
    have h5 : ((fexp B : Int) == 0) = false := by rw [beq_eq_false_iff_ne]; omega
    rw [hm, hp]
    clear h0 hm hp
    go_enter Tryz.func81, Tryz.ntmps81
    go_wp2
    exact bodyPost_ret (v := .tuple #[.bool (fneg B), .int .u64 ((ffrac B + 4503599627370496 : Nat) : Int), .int .i64 ((fexp B : Int) - 1075)]) (by simp [results, Tryz.results81, go_sem]) rfl ⟨rfl, rfl⟩

theorem bytesOf_any (U : Nat) (hU : U < 18446744073709551616) (w : World) :
    Calls Tryz.prog 82 #[.int .u64 U] w fun e w' => e = .returned (.slice (some ⟨w.heap.size, 0, none⟩) 8 8) ∧ BytAt w' (.slice (some ⟨w.heap.size, 0, none⟩) 8 8) 8 U ∧ Below w.heap.size w w' := by
  have hmk : ∀ W : World, (Instr.makeSlice 22 (.int .i64 8) (.int .i64 8)).run Tryz.prog W = .ok (.slice (some ⟨W.heap.size, 0, none⟩) 8 8) (W.alloc (.cells (madeCells #[.int .u8 0] 8) 5)) := run_make_bytes 8 (by omega)
  have hrow := Row.made w 5 8 (.int .u8 0)
  obtain ⟨cs, hcs⟩ : ∃ cs, cs = madeCells #[.int .u8 0] 8 := ⟨_, rfl⟩
  rw [← hcs] at hmk hrow
  clear hcs
  go_enter Tryz.func82, Tryz.ntmps82
  go_wp2_with fail
  have hb1 : Below w.heap.size w (w.alloc (.cells cs 5)) := (Below.refl _ _).alloc (Nat.le_refl _) _
  generalize w.alloc (.cells cs 5) = w1 at *
  obtain ⟨g, hgg⟩ : ∃ g, g = w.heap.size := ⟨_, rfl⟩
  rw [← hgg] at hrow ⊢
  have HG := Lib.hid hgg; clear hgg
  have HB1 := Lib.hid hb1; clear hb1
  go_loopw [0, 4] (fun u i wr => ∃ k : Nat, ∃ f, k ≤ 8 ∧ u = .int .u64 ((U / 2 ^ (8 * k) : Nat) : Int) ∧ i = .int .i64 (7 - (k : Int)) ∧ Row wr g 5 8 f ∧ Hid (∀ p, 8 - k ≤ p → p < 8 → f p = .int .u8 (dg U (7 - p))) ∧ Hid (Chg g w1 wr)) (fun _ i _ => (intOf i + 1).toNat)
  case atStart => exact ⟨0, _, by omega, by simp, by simp, hrow, fun p h1 h2 => by omega, Chg.refl _ _⟩
  case round =>
    obtain ⟨k, f, hk, rfl, rfl, hr, HF, HCH⟩ := hrel
    by_cases hk8 : k < 8
    · have hu : U / 2 ^ (8 * k) < 18446744073709551616 := Nat.lt_of_le_of_lt (Nat.div_le_self _ _) hU
      have hd : U / 2 ^ (8 * (k + 1)) = U / 2 ^ (8 * k) / 256 := by
        rw [Nat.div_div_eq_div_mul, show (256 : Nat) = 2 ^ 8 by decide, ← Nat.pow_add, show 8 * k + 8 = 8 * (k + 1) by omega]
      have hm : U / 2 ^ (8 * k) % 256 = dg U k := rfl
      obtain ⟨u, hue⟩ : ∃ u, u = U / 2 ^ (8 * k) := ⟨_, rfl⟩
      rw [← hue] at hu hd hm ⊢
      have HD := Lib.hid hd; clear hd
      have HM := Lib.hid hm; clear hm hue
      have c0 := hr.cell (i := 7 - k) (by omega)
      have f0 := hr.frozen (7 - k)
      have HR := Lib.hid hr; clear hr
      go_wp2
      go_roundw
      case rel => 
        refine ⟨k + 1, _, by omega, ?_, by go_num, HR.out.set (7 - k) _, fun p h1 h2 => ?_, HCH.out.set _ _⟩
        · rw [HD.out]; simp
        · show (if _ then _ else _) = _
          by_cases hp : p = 7 - k
          · rw [if_pos hp, hp, show 7 - (7 - k) = k by omega, ← HM.out]; simp
          · rw [if_neg hp]; exact HF.out p (by omega) h2
      case measure => simp [intOf]; omega
    · obtain rfl : k = 8 := by omega
      go_wp2
      go_ret
      refine ⟨?_, ⟨by simpa using hU, .inr ⟨by omega, g, 0, 8, (by rw [HG.out]), by omega, hr.lt, fun i hi => ?_⟩⟩, ?_⟩
      · rw [← HG.out]; rfl
      · rw [Nat.zero_add, hr.cell hi, HF.out i (by omega) hi]
      · exact Chg.below HB1.out HB1.out.size HCH.out (by rw [HG.out]; exact Nat.le_refl _)

theorem Zero_any (neg : Bool) (s : Value) (n V : Nat) (w : World) (h : MagAt w s n V) :
    Calls Tryz.prog 80 #[.agg #[.bool neg, s]] w fun e w' => e = .returned (.bool (n == 0)) ∧ w' = w.alloc (.cells #[.bool neg, s] 47) := by
  obtain ⟨a, c, rfl⟩ := h.shape
  have hd : ((n : Int) == 0) = (n == 0) := by cases n <;> rfl
  clear h
  go_enter Tryz.func80, Tryz.ntmps80
  go_wp2
  go_ret
  exact ⟨rfl, rfl⟩

theorem digit_in (g p c n V i : Nat) (w : World) (hi : i < n) (hn : n ≤ 9223372036854775807) (hc : ∀ i, i < n → w.cell? ⟨g, p + i, none⟩ = some (.int .u8 (dg V (n - 1 - i)))) :
    Calls Tryz.prog 128 #[.slice (some ⟨g, p, none⟩) n c, .int .i64 i] w fun e w' => e = .returned (.int .i64 (dg V i)) ∧ w' = w := by
  have hcc := hc (n - 1 - i) (by omega)
  rw [show n - 1 - (n - 1 - i) = i by omega] at hcc
  have hd := dg_lt V i
  have e : ((n : Int) - 1 - (i : Int)).toNat = n - 1 - i := by omega
  clear hc
  go_enter Tryz.func128, Tryz.ntmps128
  go_wp2
  go_ret
  exact ⟨rfl, rfl⟩
theorem digit_out (a : Option Addr) (c n i : Nat) (w : World) (hi : n ≤ i) :
    Calls Tryz.prog 128 #[.slice a n c, .int .i64 i] w fun e w' => e = .returned (.int .i64 0) ∧ w' = w := by
  go_enter Tryz.func128, Tryz.ntmps128
  go_wp2
  go_ret
  exact ⟨rfl, rfl⟩

theorem dg_pow (q r i : Nat) (hr : r < 8) (hi : i ≤ q) : dg (2 ^ (8 * q + r)) (q - i) = if i = 0 then 2 ^ r else 0 := by
  unfold dg
  rw [Nat.pow_div (by omega) (by omega), show 8 * q + r - 8 * (q - i) = 8 * i + r by omega]
  by_cases h : i = 0
  · subst h
    rw [if_pos rfl, Nat.mul_zero, Nat.zero_add]
    exact Nat.mod_eq_of_lt (Nat.pow_lt_pow_right (by omega) hr)
  · rw [if_neg h, show 8 * i + r = 8 + (8 * (i - 1) + r) by omega, Nat.pow_add]
    exact Nat.mul_mod_right _ _

theorem Power_any (k : Nat) (hk : k ≤ 1099511627776) (w : World) :
    Calls Tryz.prog 107 #[.int .i64 k] w fun e w' => ∃ s m, e = .returned (.agg #[.bool false, s]) ∧ m ≤ k / 8 + 1 ∧ NewMag w w' s m (2 ^ k) := by
  obtain ⟨q, hq⟩ : ∃ q, q = k / 8 := ⟨_, rfl⟩
  obtain ⟨r, hr⟩ : ∃ r, r = k % 8 := ⟨_, rfl⟩
  have hk2 : k = 8 * q + r := by omega
  have hmk := run_make_bytes (q + 1) (by omega)
  have hq1 : ((q + 1 : Nat) : Int) = (k : Int) / 8 + 1 := by omega
  rw [hq1] at hmk
  have hr1 : (k : Int) % 8 = (r : Int) := by omega
  have hr8 : r < 8 := by omega
  rw [← hq]
  have HK := Lib.hid hk2
  clear hq hq1 hr hk2
  have hrow := Row.made w 5 (q + 1) (.int .u8 0)
  obtain ⟨cs, hcs⟩ : ∃ cs, cs = madeCells #[.int .u8 0] (q + 1) := ⟨_, rfl⟩
  have hc0 : cs[0]? = some (.int .u8 0) := by rw [hcs]; simp [madeCells]
  have hci : ∀ i, i < q + 1 → cs[i]? = some (.int .u8 0) := fun i hi => by rw [hcs]; simp [madeCells, hi, Nat.mod_one]
  have hcz : cs.size = q + 1 := by rw [hcs]; exact size_madeCells _ _
  rw [← hcs] at hmk
  clear hcs hrow
  have hb1 : ∀ u : Int, Below w.heap.size w ((w.alloc (.cells #[.bool false, .slice none 0 0] 47)).alloc (.cells (cs.setIfInBounds 0 (.int .u8 u)) 5)) := fun u => ((Below.refl _ _).alloc (Nat.le_refl _) _).alloc (by simp) _
  have hbyt : BytAt ((w.alloc (.cells #[.bool false, .slice none 0 0] 47)).alloc (.cells (cs.setIfInBounds 0 (.int .u8 (2 ^ r % 256))) 5)) (.slice (some ⟨w.heap.size + 1, 0, none⟩) (q + 1) (q + 1)) (q + 1) (2 ^ k) := by
    rw [HK.out]
    refine ⟨Nat.pow_lt_pow_right (by omega) (by omega), .inr ⟨by omega, w.heap.size + 1, 0, q + 1, rfl, Nat.le_refl _, by simp, fun i hi => ?_⟩⟩
    rw [Nat.zero_add, (cell_of_row _ _ i _ _ (0, 0) (heap2_1 w _ _)), show q + 1 - 1 - i = q - i by omega, dg_pow q r i hr8 (by omega)]
    by_cases h : i = 0
    · subst h
      have h2 : 2 ^ r < 256 := Nat.pow_lt_pow_right (a := 2) (by omega) hr8
      have h3 : (2 : Int) ^ r % 256 = ((2 ^ r : Nat) : Int) := by
        obtain ⟨x, hx⟩ : ∃ x, x = 2 ^ r := ⟨_, rfl⟩
        have : (2 : Int) ^ r = (x : Int) := by rw [hx]; simp
        rw [← hx] at h2
        rw [this, ← hx]; omega
      rw [h3]
      simp [hcz]
    · rw [if_neg h, Array.getElem?_setIfInBounds, if_neg (by omega), hci i hi]
      rfl
  have HO := Lib.hid (Of_any false _ _ _ _ hbyt (by have := HK.out; omega))
  have HB := Lib.hid (hb1 (2 ^ r % 256))
  have HQ := Lib.hid (heap2_0 w (.cells #[.bool false, .slice none 0 0] 47) (.cells (cs.setIfInBounds 0 (.int .u8 (2 ^ r % 256))) 5))
  clear hbyt hb1 hci hcz HK
  go_enter Tryz.func107, Tryz.ntmps107
  go_wp2_with fail
  refine HO.out.mono ?_
  rintro e w2 ⟨s, m, rfl, hm, hn⟩
  obtain ⟨a, c, rfl⟩ := hn.1.shape
  have hR := (hn.2.2.block w.heap.size (by simp; omega)).trans HQ.out
  have hne : ∀ b k c', Value.slice a m c = .slice (some b) k c' → 0 < m → b.block ≠ w.heap.size := fun b k c' e h0 => by have := hn.2.1 b k c' e h0; simp at this; omega
  have HN := Lib.hid (hn.from HB.out)
  have HNE := Lib.hid hne
  have HR := Lib.hid hR
  have c0 := (cell_of_row w2 _ 0 _ _ (0, 0) hR).trans rfl
  have c1 := (cell_of_row w2 _ 1 _ _ (0, 0) hR).trans rfl
  have f0 : ∀ i, w2.frozen? ⟨w.heap.size, i, none⟩ = false := fun i => by simp [World.frozen?, hR]
  clear hn hR hne
  go_wp2
  have hW := set1 (i := 1) (x := .slice a m c) (set1 (i := 0) (x := .bool false) HR.out)
  have e0 := (cell_of_row _ _ 0 _ _ (0, 0) hW).trans rfl
  have e1 := (cell_of_row _ _ 1 _ _ (0, 0) hW).trans rfl
  refine bodyPost_ret (v := .agg #[.bool false, .slice a m c]) (by simp [results, Tryz.results107, go_sem, e0, e1]) rfl ⟨_, m, rfl, hm, (HN.out.put (Nat.le_refl _) HNE.out _).put (Nat.le_refl _) HNE.out _⟩

end Go.Proofs.YtjkmppdmejgjiaaGreatDoor

/- The plain law of multiplication digit by digit. No program in sight. -/
set_option linter.unusedVariables false
namespace Go.Proofs.YtjkmppdmejgjiaaGreatDoor
namespace Num

theorem dg_add_high (x z q j : Nat) (h : j < q) : dg (x + 2 ^ (8 * q) * z) j = dg x j := by
  unfold dg
  have e : 2 ^ (8 * q) = 2 ^ (8 * j) * (2 ^ 8 * 2 ^ (8 * (q - j - 1))) := by
    rw [← Nat.pow_add, ← Nat.pow_add]; congr 1; omega
  rw [e, Nat.mul_assoc, Nat.add_mul_div_left _ _ (Nat.two_pow_pos _), Nat.mul_assoc (2 ^ 8), Nat.add_mul_mod_self_left]
theorem mod_dg (U k : Nat) : U % 2 ^ (8 * (k + 1)) = U % 2 ^ (8 * k) + 2 ^ (8 * k) * dg U k := by
  unfold dg
  rw [show 8 * (k + 1) = 8 * k + 8 by omega, Nat.pow_add, Nat.mod_mul]
theorem div_dg (x q : Nat) : x / 2 ^ (8 * q) = dg x q + 256 * (x / 2 ^ (8 * (q + 1))) := by
  unfold dg
  rw [show 8 * (q + 1) = 8 * q + 8 by omega, Nat.pow_add, ← Nat.div_div_eq_div_mul]
  have := Nat.mod_add_div (x / 2 ^ (8 * q)) (2 ^ 8)
  omega

/-- the total after k rounds of the inner loop in round i of the outer one -/
def mulT (V U i k : Nat) : Nat := U * (V % 2 ^ (8 * i)) + 2 ^ (8 * i) * (dg V i * (U % 2 ^ (8 * k)))
theorem mulT_zero (V U i : Nat) : mulT V U i 0 = U * (V % 2 ^ (8 * i)) := by simp [mulT, Nat.mod_one]
theorem mulT_succ (V U i k : Nat) : mulT V U i (k + 1) = mulT V U i k + 2 ^ (8 * (i + k)) * (dg V i * dg U k) := by
  unfold mulT
  rw [mod_dg, Nat.mul_add, Nat.mul_add, ← Nat.add_assoc]
  congr 1
  rw [show 8 * (i + k) = 8 * i + 8 * k by omega, Nat.pow_add]
  rw [Nat.mul_assoc, Nat.mul_left_comm (dg V i)]
theorem mulT_full (V U i k m : Nat) (hU : U < 2 ^ (8 * m)) (hk : m ≤ k) : mulT V U i k = U * (V % 2 ^ (8 * (i + 1))) := by
  have : U % 2 ^ (8 * k) = U := Nat.mod_eq_of_lt (Nat.lt_of_lt_of_le hU (Nat.pow_le_pow_right (by omega) (by omega)))
  unfold mulT
  rw [this, mod_dg V i, Nat.mul_add]
  congr 1
  rw [Nat.mul_comm U, Nat.mul_assoc]

/-- the digits and the carry after k rounds -/
structure MulSt (V U i k carry N : Nat) (D : Nat → Nat) : Prop where
  low : ∀ j, j < i + k → D j = dg (mulT V U i k) j
  high : ∀ j, i + k ≤ j → j < N → D j = dg (U * (V % 2 ^ (8 * i))) j
  sum : mulT V U i k / 2 ^ (8 * (i + k)) = U * (V % 2 ^ (8 * i)) / 2 ^ (8 * (i + k)) + carry
  small : carry < 256

theorem MulSt.start {V U i N : Nat} {D : Nat → Nat} (h : ∀ j, j < N → D j = dg (U * (V % 2 ^ (8 * i))) j) (hiN : i ≤ N) : MulSt V U i 0 0 N D :=
  ⟨fun j hj => by rw [mulT_zero]; exact h j (by omega), fun j _ hj => h j hj, by rw [mulT_zero]; rfl, by omega⟩

theorem MulSt.step {V U i k c N s : Nat} {D : Nat → Nat} (h : MulSt V U i k c N D) (hN : i + k < N) (hs : s = D (i + k) + dg V i * dg U k + c) :
    MulSt V U i (k + 1) (s / 256) N (fun j => if j = i + k then s % 256 else D j) := by
  have hD := h.high (i + k) (Nat.le_refl _) hN
  have hq : mulT V U i (k + 1) / 2 ^ (8 * (i + k)) = U * (V % 2 ^ (8 * i)) / 2 ^ (8 * (i + k)) + c + dg V i * dg U k := by
    rw [mulT_succ, Nat.add_mul_div_left _ _ (Nat.two_pow_pos _), h.sum]
  have hS := div_dg (U * (V % 2 ^ (8 * i))) (i + k)
  have hT := div_dg (mulT V U i (k + 1)) (i + k)
  have hlt := dg_lt (mulT V U i (k + 1)) (i + k)
  have hlt2 := dg_lt (U * (V % 2 ^ (8 * i))) (i + k)
  have hv := dg_lt V i
  have hu := dg_lt U k
  have hvu : dg V i * dg U k ≤ 255 * 255 := Nat.mul_le_mul (by omega) (by omega)
  have hc := h.small
  rw [show i + k + 1 = i + (k + 1) by omega] at hS hT
  generalize dg V i * dg U k = z at *
  refine ⟨fun j hj => ?_, fun j h1 h2 => ?_, ?_, by omega⟩
  · show (if _ then _ else _) = _
    by_cases e : j = i + k
    · rw [if_pos e, e]; omega
    · rw [if_neg e, h.low j (by omega), mulT_succ]
      exact (dg_add_high _ _ _ _ (by omega)).symm
  · show (if _ then _ else _) = _
    rw [if_neg (by omega)]; exact h.high j (by omega) h2
  · omega

theorem MulSt.done {V U i k m N : Nat} {D : Nat → Nat} (h : MulSt V U i k 0 N D) (hU : U < 2 ^ (8 * m)) (hk : m ≤ k) : ∀ j, j < N → D j = dg (U * (V % 2 ^ (8 * (i + 1)))) j := by
  intro j hj
  rw [← mulT_full V U i k m hU hk]
  by_cases hjk : j < i + k
  · exact h.low j hjk
  · rw [h.high j (by omega) hj]
    unfold dg
    have e : ∀ x, x / 2 ^ (8 * j) = x / 2 ^ (8 * (i + k)) / 2 ^ (8 * (j - (i + k))) := fun x => by
      rw [Nat.div_div_eq_div_mul, ← Nat.pow_add]; congr 2; omega
    rw [e, e (mulT V U i k), h.sum, Nat.add_zero]
theorem MulSt.last {V U i m c N : Nat} {D : Nat → Nat} (h : MulSt V U i m c N D) (hU : U < 2 ^ (8 * m)) (hN : i + m < N) : D (i + m) = 0 := by
  rw [h.high _ (Nat.le_refl _) hN]
  unfold dg
  rw [Nat.div_eq_of_lt]
  · rw [show 8 * (i + m) = 8 * m + 8 * i by omega, Nat.pow_add]
    exact Nat.mul_lt_mul_of_lt_of_le hU (Nat.le_of_lt (Nat.mod_lt _ (Nat.two_pow_pos _))) (Nat.two_pow_pos _)

end Num
end Go.Proofs.YtjkmppdmejgjiaaGreatDoor
