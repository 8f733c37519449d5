import Derived.Test.YtpcleebnfgnhdaaGreatDoorGz1
import Derived.Laws.FloatArith
import Derived.Test.YtpcleebnfgnhdaaGreatDoorGz5
import Derived.Laws.Bits64b
/- Floats in plain Lean: what a double's bits stand for; its order; no program in sight. -/
set_option linter.unusedVariables false
set_option linter.unusedSimpArgs false
namespace Go.Proofs.YtpcleebnfgnhdaaGreatDoor
namespace Num
open Ieee

/-- the parts of a double -/
def fneg (B : Nat) : Bool := B / 9223372036854775808 == 1
def fexp (B : Nat) : Nat := B / 4503599627370496 % 2048
def ffrac (B : Nat) : Nat := B % 4503599627370496
def fman (B : Nat) : Nat := if fexp B = 0 then ffrac B else ffrac B + 4503599627370496
def fplace (B : Nat) : Int := if fexp B = 0 then -1074 else (fexp B : Int) - 1075

theorem fexp_lt (B : Nat) : fexp B < 2048 := Nat.mod_lt _ (by decide)
theorem ffrac_lt (B : Nat) : ffrac B < 4503599627370496 := Nat.mod_lt _ (by decide)
theorem fman_lt (B : Nat) : fman B < 9007199254740992 := by
  have := ffrac_lt B
  unfold fman
  split <;> omega
theorem fplace_ge (B : Nat) : -1074 ≤ fplace B := by unfold fplace; split <;> omega

theorem read_double (B : Nat) (hB : B < 18446744073709551616) (hf : fexp B ≠ 2047) : double.read B = .number (fneg B) (fman B) (fplace B) := by
  have hsw : double.signWeight = 9223372036854775808 := by decide
  have hbn : double.binade = 4503599627370496 := by decide
  have hir : double.infRung = 9218868437227405312 := by decide
  have hlp : double.leastPlace = -1074 := by decide
  have hneg : (B / 9223372036854775808 % 2 == 1) = fneg B := by
    unfold fneg
    have : B / 9223372036854775808 < 2 := by omega
    rw [Nat.mod_eq_of_lt this]
  have hr : B % 9223372036854775808 = fexp B * 4503599627370496 + ffrac B := by unfold fexp ffrac; omega
  have h1 := fexp_lt B
  have h2 := ffrac_lt B
  unfold Format.read
  simp only [hsw, hbn, hir, hlp, hneg, hr]
  by_cases h0 : fexp B = 0
  · rw [if_pos (by omega)]
    unfold fman fplace
    rw [if_pos h0, if_pos h0, h0]
    simp
  · rw [if_neg (by omega), if_pos (by omega)]
    unfold fman fplace
    rw [if_neg h0, if_neg h0]
    have e1 : (fexp B * 4503599627370496 + ffrac B) % 4503599627370496 = ffrac B := by omega
    have e2 : (fexp B * 4503599627370496 + ffrac B) / 4503599627370496 = fexp B := by omega
    rw [e1, e2]
    congr 1 <;> omega
theorem read_inf (B : Nat) (hB : B < 18446744073709551616) (hf : fexp B = 2047) (h0 : ffrac B = 0) : double.read B = .infinity (fneg B) := by
  have hsw : double.signWeight = 9223372036854775808 := by decide
  have hbn : double.binade = 4503599627370496 := by decide
  have hir : double.infRung = 9218868437227405312 := by decide
  have hneg : (B / 9223372036854775808 % 2 == 1) = fneg B := by
    unfold fneg
    have : B / 9223372036854775808 < 2 := by omega
    rw [Nat.mod_eq_of_lt this]
  have hr : B % 9223372036854775808 = fexp B * 4503599627370496 + ffrac B := by unfold fexp ffrac; omega
  unfold Format.read
  simp only [hsw, hbn, hir, hneg, hr, hf, h0]
  simp
theorem read_nan (B : Nat) (hB : B < 18446744073709551616) (hf : fexp B = 2047) (h0 : ffrac B ≠ 0) : double.read B = .nan (fneg B) (ffrac B) := by
  have hsw : double.signWeight = 9223372036854775808 := by decide
  have hbn : double.binade = 4503599627370496 := by decide
  have hir : double.infRung = 9218868437227405312 := by decide
  have hneg : (B / 9223372036854775808 % 2 == 1) = fneg B := by
    unfold fneg
    have : B / 9223372036854775808 < 2 := by omega
    rw [Nat.mod_eq_of_lt this]
  have hr : B % 9223372036854775808 = fexp B * 4503599627370496 + ffrac B := by unfold fexp ffrac; omega
  have h2 := ffrac_lt B
  unfold Format.read
  obtain ⟨q, hq⟩ : ∃ q, q = 2047 * 4503599627370496 + ffrac B := ⟨_, rfl⟩
  have c1 : ¬ (q < 4503599627370496) := by omega
  have c2 : ¬ (q < 9218868437227405312) := by omega
  have c3 : ¬ (q = 9218868437227405312) := by omega
  have c4 : q - 9218868437227405312 = ffrac B := by omega
  simp only [hsw, hbn, hir, hneg, hr, hf, ← hq, c1, c2, c3, c4, if_false]

theorem order_self (B : Nat) (hB : B < 18446744073709551616) : double.order B B = if fexp B = 2047 ∧ ffrac B ≠ 0 then none else some .eq := by
  unfold Format.order
  by_cases h : fexp B = 2047
  · by_cases h0 : ffrac B = 0
    · rw [read_inf B hB h h0, if_neg (by simp [h0])]
      simp [Datum.order]
    · rw [read_nan B hB h h0, if_pos ⟨h, h0⟩]
      simp [Datum.order]
  · rw [read_double B hB h, if_neg (fun q => h q.1)]
    simp [Datum.order]

theorem signed_cmp (s : Bool) (m : Nat) (i : Int) (t : Bool) (n : Nat) (j : Int) : Datum.order (.number s m i) (.number t n j) = some (compare (signed s m (i - min i j).toNat) (signed t n (j - min i j).toNat)) := rfl

theorem signed_false (m u : Nat) : signed false m u = ((m * 2 ^ u : Nat) : Int) := by simp [signed, Nat.shiftLeft_eq]
theorem signed_true (m u : Nat) : signed true m u = -((m * 2 ^ u : Nat) : Int) := by simp [signed, Nat.shiftLeft_eq]
theorem fplace_hi {B : Nat} (h : 0 ≤ fplace B) : 4503599627370496 ≤ fman B := by
  unfold fplace at h
  split at h
  · omega
  · rename_i h0
    unfold fman
    rw [if_neg h0]
    omega

/-- the double 2^63 -/
theorem read_2_63 : double.read 4890909195324358656 = .number false 4503599627370496 11 := by decide
theorem read_m2_63 : double.read 14114281232179134464 = .number true 4503599627370496 11 := by decide
theorem read_max : double.read 9218868437227405311 = .number false 9007199254740991 971 := by decide

theorem pow_base (p q : Int) (h : p ≤ q) : (p - min p q).toNat = 0 ∧ (q - min p q).toNat = (q - p).toNat := by
  rw [Int.min_eq_left h]; omega

/-- x < 2^63 -/
theorem lt_2_63 (B : Nat) (hB : B < 18446744073709551616) (hf : fexp B ≠ 2047) : (double.order B 4890909195324358656 == some .lt) = (fneg B || decide (fplace B ≤ 10)) := by
  unfold Format.order
  rw [read_double B hB hf, read_2_63, signed_cmp]
  have hM := fman_lt B
  cases hn : fneg B
  · rw [signed_false, signed_false]
    by_cases hp : fplace B ≤ 10
    · obtain ⟨e1, e2⟩ := pow_base (fplace B) 11 (by omega)
      rw [e1, e2]
      have h2 : 2 ^ 1 ≤ 2 ^ (11 - fplace B).toNat := Nat.pow_le_pow_right (by omega) (by omega)
      have h3 : 4503599627370496 * 2 ≤ 4503599627370496 * 2 ^ (11 - fplace B).toNat := Nat.mul_le_mul_left _ (by simpa using h2)
      have hlt : fman B * 2 ^ 0 < 4503599627370496 * 2 ^ (11 - fplace B).toNat := by omega
      have : compare ((fman B * 2 ^ 0 : Nat) : Int) ((4503599627370496 * 2 ^ (11 - fplace B).toNat : Nat) : Int) = .lt := by
        rw [Int.compare_eq_lt]; exact Int.ofNat_lt.2 hlt
      rw [this]; simp [hp]
    · have h4 := fplace_hi (B := B) (by omega)
      have e1 : (11 - min (fplace B) 11).toNat = 0 := by rw [Int.min_eq_right (by omega)]; omega
      rw [e1]
      have h2 : 1 ≤ 2 ^ (fplace B - min (fplace B) 11).toNat := Nat.one_le_two_pow
      have h3 : fman B * 1 ≤ fman B * 2 ^ (fplace B - min (fplace B) 11).toNat := Nat.mul_le_mul_left _ h2
      have hge : 4503599627370496 * 2 ^ 0 ≤ fman B * 2 ^ (fplace B - min (fplace B) 11).toNat := by omega
      have : compare ((fman B * 2 ^ (fplace B - min (fplace B) 11).toNat : Nat) : Int) ((4503599627370496 * 2 ^ 0 : Nat) : Int) ≠ .lt := by
        intro h
        rw [Int.compare_eq_lt] at h
        have := Int.ofNat_lt.1 h
        omega
      revert this
      generalize compare ((fman B * 2 ^ (fplace B - min (fplace B) 11).toNat : Nat) : Int) ((4503599627370496 * 2 ^ 0 : Nat) : Int) = c
      intro this
      cases c <;> simp_all
  · rw [signed_true, signed_false]
    have h2 : 1 ≤ 2 ^ (11 - min (fplace B) 11).toNat := Nat.one_le_two_pow
    have h3 : 4503599627370496 * 1 ≤ 4503599627370496 * 2 ^ (11 - min (fplace B) 11).toNat := Nat.mul_le_mul_left _ h2
    have : compare (-((fman B * 2 ^ (fplace B - min (fplace B) 11).toNat : Nat) : Int)) ((4503599627370496 * 2 ^ (11 - min (fplace B) 11).toNat : Nat) : Int) = .lt := by
      rw [Int.compare_eq_lt]
      have := Int.natCast_nonneg (fman B * 2 ^ (fplace B - min (fplace B) 11).toNat)
      omega
    rw [this]; simp

/-- -2^63 ≤ x -/
theorem ge_m2_63 (B : Nat) (hB : B < 18446744073709551616) (hf : fexp B ≠ 2047) : (double.order 14114281232179134464 B == some .lt || double.order 14114281232179134464 B == some .eq) = (!fneg B || decide (fplace B ≤ 10) || decide (fplace B = 11 ∧ fman B = 4503599627370496)) := by
  unfold Format.order
  rw [read_double B hB hf, read_m2_63, signed_cmp]
  have hM := fman_lt B
  cases hn : fneg B
  · rw [signed_true, signed_false]
    have h2 : 1 ≤ 2 ^ (11 - min 11 (fplace B)).toNat := Nat.one_le_two_pow
    have h3 : 4503599627370496 * 1 ≤ 4503599627370496 * 2 ^ (11 - min 11 (fplace B)).toNat := Nat.mul_le_mul_left _ h2
    have : compare (-((4503599627370496 * 2 ^ (11 - min 11 (fplace B)).toNat : Nat) : Int)) ((fman B * 2 ^ (fplace B - min 11 (fplace B)).toNat : Nat) : Int) = .lt := by
      rw [Int.compare_eq_lt]
      have := Int.natCast_nonneg (fman B * 2 ^ (fplace B - min 11 (fplace B)).toNat)
      omega
    rw [this]; simp
  · rw [signed_true, signed_true]
    by_cases hp : fplace B ≤ 10
    · have e1 : (fplace B - min 11 (fplace B)).toNat = 0 := by rw [Int.min_eq_right (by omega)]; omega
      have e2 : (11 - min 11 (fplace B)).toNat = (11 - fplace B).toNat := by rw [Int.min_eq_right (by omega)]
      rw [e1, e2]
      have h2 : 2 ^ 1 ≤ 2 ^ (11 - fplace B).toNat := Nat.pow_le_pow_right (by omega) (by omega)
      have h3 : 4503599627370496 * 2 ≤ 4503599627370496 * 2 ^ (11 - fplace B).toNat := Nat.mul_le_mul_left _ (by simpa using h2)
      have hlt : fman B * 2 ^ 0 < 4503599627370496 * 2 ^ (11 - fplace B).toNat := by omega
      have : compare (-((4503599627370496 * 2 ^ (11 - fplace B).toNat : Nat) : Int)) (-((fman B * 2 ^ 0 : Nat) : Int)) = .lt := by
        rw [Int.compare_eq_lt]
        have := Int.ofNat_lt.2 hlt
        omega
      rw [this]; simp [hp]
    · have h4 := fplace_hi (B := B) (by omega)
      have e1 : (11 - min 11 (fplace B)).toNat = 0 := by rw [Int.min_eq_left (by omega)]; omega
      have e2 : (fplace B - min 11 (fplace B)).toNat = (fplace B - 11).toNat := by rw [Int.min_eq_left (by omega)]
      rw [e1, e2]
      by_cases hq : fplace B = 11 ∧ fman B = 4503599627370496
      · rw [hq.1, hq.2]; simp
      · have hgt : 4503599627370496 * 2 ^ 0 < fman B * 2 ^ (fplace B - 11).toNat := by
          by_cases h11 : fplace B = 11
          · have : fman B ≠ 4503599627370496 := fun e => hq ⟨h11, e⟩
            rw [h11]; simp; omega
          · have h2 : 2 ^ 1 ≤ 2 ^ (fplace B - 11).toNat := Nat.pow_le_pow_right (by omega) (by omega)
            have h3 : fman B * 2 ≤ fman B * 2 ^ (fplace B - 11).toNat := Nat.mul_le_mul_left _ (by simpa using h2)
            omega
        have : compare (-((4503599627370496 * 2 ^ 0 : Nat) : Int)) (-((fman B * 2 ^ (fplace B - 11).toNat : Nat) : Int)) = .gt := by
          rw [Int.compare_eq_gt]
          have := Int.ofNat_lt.2 hgt
          omega
        rw [this]; simp [hp, hq]

/-- |x| > the greatest double -/
theorem gt_max (A : Nat) (hA : A < 9223372036854775808) (hn : ¬ (fexp A = 2047 ∧ ffrac A ≠ 0)) : (double.order A 9218868437227405311 == some .gt) = decide (fexp A = 2047) := by
  have hneg : fneg A = false := by unfold fneg; rw [Nat.div_eq_of_lt hA]; rfl
  unfold Format.order
  rw [read_max]
  by_cases hf : fexp A = 2047
  · have h0 : ffrac A = 0 := by
      rcases Nat.eq_zero_or_pos (ffrac A) with h | h
      · exact h
      · exact absurd ⟨hf, by omega⟩ hn
    rw [read_inf A (by omega) hf h0, hneg]
    simp [Datum.order, hf]
  · rw [read_double A (by omega) hf, signed_cmp, hneg, signed_false, signed_false]
    have hM := fman_lt A
    have hp : fplace A ≤ 971 := by
      have := fexp_lt A
      unfold fplace; split <;> omega
    obtain ⟨e1, e2⟩ := pow_base (fplace A) 971 hp
    rw [e1, e2]
    have h2 : 1 ≤ 2 ^ (971 - fplace A).toNat := Nat.one_le_two_pow
    have h3 : 9007199254740991 * 1 ≤ 9007199254740991 * 2 ^ (971 - fplace A).toNat := Nat.mul_le_mul_left _ h2
    have hle : fman A * 2 ^ 0 ≤ 9007199254740991 * 2 ^ (971 - fplace A).toNat := by omega
    have : compare ((fman A * 2 ^ 0 : Nat) : Int) ((9007199254740991 * 2 ^ (971 - fplace A).toNat : Nat) : Int) ≠ .gt := by
      intro h
      rw [Int.compare_eq_gt] at h
      have := Int.ofNat_lt.1 h
      omega
    revert this
    generalize compare ((fman A * 2 ^ 0 : Nat) : Int) ((9007199254740991 * 2 ^ (971 - fplace A).toNat : Nat) : Int) = c
    intro this
    cases c <;> simp_all

/-- the whole part of a double's magnitude -/
def fwhole (B : Nat) : Nat := if 0 ≤ fplace B then fman B * 2 ^ (fplace B).toNat else fman B / 2 ^ (-fplace B).toNat
theorem cut_zero (neg : Bool) (n drop : Nat) : Toward.zero.cut neg n drop = n / 2 ^ drop := by
  unfold Toward.cut
  simp only [Nat.one_shiftLeft, Bool.toNat_false, Nat.add_zero]
  by_cases h : drop ≤ n.log2 + 2
  · rw [Nat.min_eq_left h]
  · rw [Nat.min_eq_right (by omega)]
    have h1 : n < 2 ^ (n.log2 + 2) := Nat.lt_of_lt_of_le Nat.lt_log2_self (Nat.pow_le_pow_right (by omega) (by omega))
    have h2 : n < 2 ^ drop := Nat.lt_of_lt_of_le h1 (Nat.pow_le_pow_right (by omega) (by omega))
    rw [Nat.div_eq_of_lt h1, Nat.div_eq_of_lt h2]
theorem toInt_double (B : Nat) (hB : B < 18446744073709551616) (hf : fexp B ≠ 2047) : (double.read B).toInt .zero = some (if fneg B then -(fwhole B : Int) else (fwhole B : Int)) := by
  rw [read_double B hB hf]
  unfold Datum.toInt Datum.integral
  simp only [cut_zero, Nat.shiftLeft_eq]
  have hw : fman B * 2 ^ (fplace B).toNat / 2 ^ (-fplace B).toNat = fwhole B := by
    unfold fwhole
    by_cases h : 0 ≤ fplace B
    · rw [if_pos h, show (-fplace B).toNat = 0 by omega]; simp
    · rw [if_neg h, show (fplace B).toNat = 0 by omega]; simp
  rw [hw]
  cases fneg B
  · simp [signed_false]
  · simp [signed_true]

end Num
end Go.Proofs.YtpcleebnfgnhdaaGreatDoor

/- Walks: math.IsNaN, IsInf, Abs; spec.Finite, floatParts, bytesOf. -/
set_option linter.unusedVariables false
set_option linter.unusedSimpArgs false
namespace Go.Proofs.YtpcleebnfgnhdaaGreatDoor
open Go.RowKit
open Num

theorem andNot_sign (B : Nat) (hB : B < 18446744073709551616) : bits .andNot .u64 (B : Int) 9223372036854775808 = ((B % 9223372036854775808 : Nat) : Int) := by
  have h1 : (BitVec.ofInt 64 (B : Int)).toNat = B := by
    rw [BitVec.ofInt_natCast, BitVec.toNat_ofNat]; exact Nat.mod_eq_of_lt (by omega)
  have h2 : (~~~ (BitVec.ofInt 64 9223372036854775808)).toNat = 9223372036854775807 := by decide
  show IntKind.u64.wrap ((BitVec.ofInt 64 (B : Int) &&& ~~~ (BitVec.ofInt 64 9223372036854775808)).toNat : Int) = _
  rw [BitVec.toNat_and, h1, h2, IntKind.wrap_u64]
  have h3 : B &&& 9223372036854775807 = B % 9223372036854775808 := Nat.and_two_pow_sub_one_eq_mod B 63
  rw [h3]
  omega
theorem and_2047 (x : Nat) (hx : x < 18446744073709551616) : bits .and .u64 (x : Int) 2047 = ((x % 2048 : Nat) : Int) := by
  have := bits_and_u64_nat x 2047 hx (by decide)
  rw [show x &&& 2047 = x % 2048 from Nat.and_two_pow_sub_one_eq_mod x 11] at this
  exact this
theorem and_frac (x : Nat) (hx : x < 18446744073709551616) : bits .and .u64 (x : Int) 4503599627370495 = ((x % 4503599627370496 : Nat) : Int) := by
  have := bits_and_u64_nat x 4503599627370495 hx (by decide)
  rw [show x &&& 4503599627370495 = x % 4503599627370496 from Nat.and_two_pow_sub_one_eq_mod x 52] at this
  exact this
theorem or_hidden (x : Nat) (hx : x < 4503599627370496) : bits .or .u64 (x : Int) 4503599627370496 = ((x + 4503599627370496 : Nat) : Int) := by
  have := bits_or_u64_nat x 4503599627370496 (by omega) (by decide)
  have h2 : x ||| 4503599627370496 = x + 4503599627370496 := by
    have := Nat.two_pow_add_eq_or_of_lt (i := 52) (b := x) hx 1
    rw [Nat.or_comm]
    have e : (2 : Nat) ^ 52 * 1 = 4503599627370496 := by decide
    rw [e] at this
    omega
  rw [h2] at this
  exact this

theorem IsNaN_any (B : Nat) (hB : B < 18446744073709551616) (w : World) :
    Calls Tryz.prog 36 #[.float .f64 B] w fun e w' => e = .returned (.bool (decide (fexp B = 2047 ∧ ffrac B ≠ 0))) ∧ w' = w := by
  go_enter Tryz.func36, Tryz.ntmps36
  go_wp2
  go_ret
  refine ⟨ret_bool ?_, rfl⟩
  show (Ieee.double.order B B != some .eq) = _
  rw [order_self B hB]
  split <;> simp_all

theorem Abs_any (B : Nat) (hB : B < 18446744073709551616) (w : World) :
    Calls Tryz.prog 146 #[.float .f64 B] w fun e w' => e = .returned (.float .f64 (B % 9223372036854775808)) ∧ w' = w := by
  have h1 := run_tobits B
  have h2 : ∀ n : Int, ∀ W : World, (callFunc 64 #[.int .u64 n]).run Tryz.prog W = .ok (.value (.float .f64 n.toNat)) W := run_frombits
  go_enter Tryz.func146, Tryz.ntmps146
  go_wp2
  go_ret
  rw [andNot_sign B hB]
  exact ⟨by simp; omega, rfl⟩

theorem IsInf_any (B : Nat) (hB : B < 18446744073709551616) (hn : ¬ (fexp B = 2047 ∧ ffrac B ≠ 0)) (w : World) :
    Calls Tryz.prog 126 #[.float .f64 B, .int .i64 0] w fun e w' => e = .returned (.bool (decide (fexp B = 2047))) ∧ w' = w := by
  have ex : fexp (B % 9223372036854775808) = fexp B := by unfold fexp; omega
  have ef : ffrac (B % 9223372036854775808) = ffrac B := by unfold ffrac; omega
  have hg := gt_max (B % 9223372036854775808) (by omega) (by rw [ex, ef]; exact hn)
  rw [ex] at hg
  have HG := Lib.hid hg; clear hg hn ex ef
  have HA := Lib.hid (Abs_any B hB w)
  go_enter Tryz.func126, Tryz.ntmps126
  go_wp2_with fail
  refine HA.out.mono ?_
  rintro e w' ⟨rfl, rfl⟩
  go_wp2
  go_ret
  exact ⟨ret_bool HG.out, rfl⟩

end Go.Proofs.YtpcleebnfgnhdaaGreatDoor

/- Plain arithmetic: signed magnitudes compared; an integer against a float, by what they are worth. No program in sight. -/
namespace Go.Proofs.YtpcleebnfgnhdaaGreatDoor.Num

/-- a sign and a magnitude -/
def sI (n : Bool) (V : Nat) : Int := if n then -(V : Int) else (V : Int)
def icmp (a b : Int) : Int := if a < b then -1 else if b < a then 1 else 0
/-- is a finite float whole? -/
def fall (B : Nat) : Bool := decide (0 ≤ fplace B) || decide (fman B % 2 ^ (-fplace B).toNat = 0)
/-- an integer against a finite float -/
def fcmp (x : Int) (B : Nat) : Int := icmp (x * ((2 ^ (-fplace B).toNat : Nat) : Int)) (sI (fneg B) (fman B * 2 ^ (fplace B).toNat))

theorem icmp_swap (a b : Int) : icmp b a = -icmp a b := by
  unfold icmp; split <;> split <;> first | rfl | omega
theorem icmp_neg (a b : Int) : icmp (-a) (-b) = -icmp a b := by
  unfold icmp; split <;> split <;> first | rfl | omega | (split <;> first | rfl | omega)
theorem icmp_bound (a b : Int) : -1 ≤ icmp a b ∧ icmp a b ≤ 1 := by
  unfold icmp; split
  · omega
  · split <;> omega
theorem icmp_mul (a b : Int) (P : Nat) (hP : 0 < P) : icmp (a * (P : Int)) (b * (P : Int)) = icmp a b := by
  have hp : (0 : Int) < (P : Int) := by omega
  have h1 : a * (P : Int) < b * (P : Int) ↔ a < b := ⟨fun h => Int.lt_of_mul_lt_mul_right h (by omega), fun h => Int.mul_lt_mul_of_pos_right h hp⟩
  have h2 : b * (P : Int) < a * (P : Int) ↔ b < a := ⟨fun h => Int.lt_of_mul_lt_mul_right h (by omega), fun h => Int.mul_lt_mul_of_pos_right h hp⟩
  unfold icmp
  simp only [h1, h2]
theorem sI_neg (n : Bool) (V : Nat) : sI (!n) V = -sI n V := by cases n <;> simp [sI]
theorem sI_mul (n : Bool) (V P : Nat) : sI n (V * P) = sI n V * (P : Int) := by
  cases n
  · simp [sI]
  · simp [sI, Int.neg_mul]
theorem sI_and (n : Bool) (V : Nat) : sI (n && decide (0 < V)) V = sI n V := by
  cases n
  · simp
  · by_cases h : 0 < V
    · simp [h]
    · obtain rfl : V = 0 := by omega
      simp [sI]
/-- the order of signed magnitudes, by the signs and the magnitudes -/
theorem icmp_signed (xn yn : Bool) (X Y : Nat) (hx : xn = true → 0 < X) (hy : yn = true → 0 < Y) :
    icmp (sI xn X) (sI yn Y) = if xn = yn then (if xn then -sgn3 X Y else sgn3 X Y) else if xn then -1 else 1 := by
  cases xn <;> cases yn
  · simp only [sI, icmp, sgn3, Bool.false_eq_true, if_false, if_true]
    split <;> split <;> first | rfl | omega | (split <;> first | rfl | omega)
  · have := hy rfl
    simp [sI, icmp]
    split
    · omega
    · split
      · rfl
      · omega
  · have := hx rfl
    simp [sI, icmp]
    omega
  · simp only [sI, icmp, sgn3, if_true]
    split <;> split <;> first | rfl | omega | (split <;> first | rfl | omega)

theorem cmp_scale (x : Int) (q r P : Nat) (hr : r < P) : icmp (x * (P : Int)) ((P * q + r : Nat) : Int) = if x = (q : Int) then (if r = 0 then 0 else -1) else icmp x (q : Int) := by
  have hP : (0 : Int) ≤ (P : Int) := by omega
  have e : ((P * q + r : Nat) : Int) = (q : Int) * (P : Int) + (r : Int) := by
    rw [Int.natCast_add, Int.natCast_mul, Int.mul_comm]
  rw [e]
  rcases Int.lt_trichotomy x (q : Int) with h | h | h
  · rw [if_neg (by omega)]
    have h1 : (x + 1) * (P : Int) ≤ (q : Int) * (P : Int) := Int.mul_le_mul_of_nonneg_right (by omega) hP
    rw [Int.add_mul, Int.one_mul] at h1
    generalize x * (P : Int) = a at *
    generalize (q : Int) * (P : Int) = b at *
    unfold icmp
    rw [if_pos (by omega), if_pos h]
  · rw [if_pos h, h]
    generalize (q : Int) * (P : Int) = b at *
    unfold icmp
    by_cases h0 : r = 0
    · rw [if_pos h0, if_neg (by omega), if_neg (by omega)]
    · rw [if_neg h0, if_pos (by omega)]
  · rw [if_neg (by omega)]
    have h1 : ((q : Int) + 1) * (P : Int) ≤ x * (P : Int) := Int.mul_le_mul_of_nonneg_right (by omega) hP
    rw [Int.add_mul, Int.one_mul] at h1
    generalize x * (P : Int) = a at *
    generalize (q : Int) * (P : Int) = b at *
    unfold icmp
    rw [if_neg (by omega), if_pos (by omega), if_neg (by omega), if_pos h]
theorem cmp_scale_neg (x : Int) (q r P : Nat) (hr : r < P) : icmp (x * (P : Int)) (-((P * q + r : Nat) : Int)) = if x = -(q : Int) then (if r = 0 then 0 else 1) else icmp x (-(q : Int)) := by
  have h := cmp_scale (-x) q r P hr
  have e1 : x * (P : Int) = -(-x * (P : Int)) := by rw [Int.neg_mul, Int.neg_neg]
  rw [e1, icmp_neg, h]
  have e2 : icmp x (-(q : Int)) = -icmp (-x) (q : Int) := by
    have := icmp_neg (-x) (q : Int)
    rwa [Int.neg_neg] at this
  rw [e2]
  by_cases hx : x = -(q : Int)
  · rw [if_pos (by omega), if_pos hx]
    split <;> rfl
  · rw [if_neg (by omega), if_neg hx]

/-- the reference's way: by the whole part first -/
theorem fcmp_whole (x : Int) (B : Nat) : (if icmp x (sI (fneg B) (fwhole B)) ≠ 0 ∨ fall B = true then icmp x (sI (fneg B) (fwhole B)) else if fneg B then 1 else -1) = fcmp x B := by
  unfold fcmp fall fwhole
  by_cases hp : 0 ≤ fplace B
  · have e : (-fplace B).toNat = 0 := by omega
    simp [hp, e]
  · have e : (fplace B).toNat = 0 := by omega
    rw [e]
    simp only [hp, if_false, decide_false, Bool.false_or, decide_eq_true_eq, Nat.pow_zero, Nat.mul_one]
    obtain ⟨P, hP⟩ : ∃ P, P = 2 ^ (-fplace B).toNat := ⟨_, rfl⟩
    have hP0 : 0 < P := by rw [hP]; exact Nat.two_pow_pos _
    rw [← hP]
    have hM : fman B = P * (fman B / P) + fman B % P := (Nat.div_add_mod _ _).symm
    have hr : fman B % P < P := Nat.mod_lt _ hP0
    generalize fman B / P = q at *
    generalize fman B % P = r at *
    rw [hM]
    cases fneg B
    · simp only [sI, Bool.false_eq_true, if_false]
      rw [cmp_scale x q r P hr]
      by_cases hx : x = (q : Int)
      · subst hx
        have h0 : icmp (q : Int) (q : Int) = 0 := by unfold icmp; simp
        rw [h0]
        by_cases hr0 : r = 0 <;> simp [hr0]
      · have h0 : icmp x (q : Int) ≠ 0 := by
          unfold icmp; split
          · omega
          · split <;> omega
        simp [hx, h0]
    · simp only [sI, if_true]
      rw [cmp_scale_neg x q r P hr]
      by_cases hx : x = -(q : Int)
      · subst hx
        have h0 : icmp (-(q : Int)) (-(q : Int)) = 0 := by unfold icmp; simp
        rw [h0]
        by_cases hr0 : r = 0 <;> simp [hr0]
      · have h0 : icmp x (-(q : Int)) ≠ 0 := by
          unfold icmp; split
          · omega
          · split <;> omega
        simp [hx, h0]
/-- the package's way: by a fraction m / 2^k that is worth the float -/
theorem fcmp_frac (x : Int) (B m k t : Nat) (hm : m * 2 ^ t = fman B) (hp : ¬ 0 ≤ fplace B) (hk : k + t = (-fplace B).toNat) :
    icmp (x * ((2 ^ k : Nat) : Int)) (sI (fneg B) m) = fcmp x B := by
  unfold fcmp
  have e : (fplace B).toNat = 0 := by omega
  rw [e, Nat.pow_zero, Nat.mul_one, ← hm, ← hk, Nat.pow_add, sI_mul, Int.natCast_mul, ← Int.mul_assoc, icmp_mul _ _ _ (Nat.two_pow_pos t)]
theorem fcmp_big (x : Int) (B k : Nat) (hk : fplace B = (k : Int)) : icmp x (sI (fneg B) (fman B * 2 ^ k)) = fcmp x B := by
  unfold fcmp
  have e : (fplace B).toNat = k := by omega
  have e2 : (-fplace B).toNat = 0 := by omega
  rw [e, e2]; simp

end Go.Proofs.YtpcleebnfgnhdaaGreatDoor.Num

/- Plain: a double against 0; what an order tells; the value of a float. -/
set_option linter.unusedVariables false
set_option linter.unusedSimpArgs false
namespace Go.Proofs.YtpcleebnfgnhdaaGreatDoor
open Go.RowKit
open Num

theorem read_zero : Ieee.double.read 0 = .number false 0 (-1074) := by decide
theorem lt_zero (B : Nat) (hB : B < 18446744073709551616) (hf : fexp B ≠ 2047) (hM : 0 < fman B) : (Ieee.double.order B 0 == some .lt) = fneg B := by
  unfold Ieee.Format.order
  rw [read_double B hB hf, read_zero, signed_cmp]
  cases hn : fneg B
  · rw [signed_false, signed_false, Nat.zero_mul]
    have : compare ((fman B * 2 ^ (fplace B - min (fplace B) (-1074)).toNat : Nat) : Int) ((0 : Nat) : Int) ≠ .lt := by
      intro h
      rw [Int.compare_eq_lt] at h
      have := Int.natCast_nonneg (fman B * 2 ^ (fplace B - min (fplace B) (-1074)).toNat)
      omega
    revert this
    generalize compare ((fman B * 2 ^ (fplace B - min (fplace B) (-1074)).toNat : Nat) : Int) ((0 : Nat) : Int) = c
    intro this
    cases c <;> simp_all
  · rw [signed_true, signed_false, Nat.zero_mul]
    have hp : 0 < fman B * 2 ^ (fplace B - min (fplace B) (-1074)).toNat := Nat.mul_pos hM (Nat.two_pow_pos _)
    have : compare (-((fman B * 2 ^ (fplace B - min (fplace B) (-1074)).toNat : Nat) : Int)) ((0 : Nat) : Int) = .lt := by
      rw [Int.compare_eq_lt]
      generalize fman B * 2 ^ (fplace B - min (fplace B) (-1074)).toNat = x at *
      omega
    rw [this]; rfl

theorem lt_zero0 (B : Nat) (hB : B < 18446744073709551616) (hf : fexp B ≠ 2047) (hM : fman B = 0) : (Ieee.double.order B 0 == some .lt) = false := by
  unfold Ieee.Format.order
  rw [read_double B hB hf, read_zero, signed_cmp, hM]
  cases fneg B
  · rw [signed_false, signed_false, Nat.zero_mul, Nat.zero_mul]; decide
  · rw [signed_true, signed_false, Nat.zero_mul, Nat.zero_mul]; decide

/-- the token of a comparison's number -/
def tokOf (op : Nat) : Int := if op = 13 then 37 else if op = 14 then 38 else if op = 15 then 33 else if op = 16 then 36 else if op = 17 then 34 else 35
/-- what an order tells to an operator -/
def opHolds (op : Nat) (c : Int) : Bool := if op = 13 then c == 0 else if op = 14 then c != 0 else if op = 15 then decide (c < 0) else if op = 16 then decide (c ≤ 0) else if op = 17 then decide (0 < c) else decide (0 ≤ c)

/-- an integer against any float: what is no number, and +Inf, are above all -/
def fcAll (x : Int) (B : Nat) : Int := if fexp B = 2047 then (if ffrac B ≠ 0 then -1 else if fneg B then 1 else -1) else fcmp x B

theorem inf_gt (B : Nat) (hB : B < 18446744073709551616) (hf : fexp B = 2047) (h0 : ffrac B = 0) : (FloatKind.f64.format.order B 0 == some .gt) = !fneg B := by
  show (Ieee.double.order B 0 == some .gt) = !fneg B
  unfold Ieee.Format.order
  rw [read_inf B hB hf h0, read_zero]
  cases fneg B <;> rfl
theorem nan_ne (B : Nat) (hB : B < 18446744073709551616) : (FloatKind.f64.format.order B B != some .eq) = decide (fexp B = 2047 ∧ ffrac B ≠ 0) := by
  show (Ieee.double.order B B != some .eq) = _
  rw [order_self B hB]
  split <;> simp_all

/-- a value that is a float -/
abbrev valFloat (B : Nat) : Value := .agg #[.int .i64 3, .bool false, .slice none 0 0, .int .u64 B, .string ⟨#[]⟩, .slice none 0 0]

theorem below_al0 (w : World) (O : Obj) : Below w.heap.size w (w.alloc O) := (Below.refl _ _).alloc (Nat.le_refl _) _
end Go.Proofs.YtpcleebnfgnhdaaGreatDoor

/- Plain: values as trees; when two are equal; what a clean one is. -/
set_option linter.unusedVariables false
set_option linter.unusedSimpArgs false
namespace Go.Proofs.YtpcleebnfgnhdaaGreatDoor
open Go.RowKit
open Num

/-- a value's tree; a dict's kids are keys and values by turns -/
inductive Tr where
  | non
  | bool (b : Bool)
  | int (neg : Bool) (V : Nat)
  | flt (B : Nat)
  | str (s : ByteArray)
  | byt (s : ByteArray)
  | lst (l : List Tr)
  | tup (l : List Tr)
  | dic (l : List Tr)
  | set (l : List Tr)

/-- the kind's number in the program -/
def Tr.kind : Tr → Int
  | .non => 0 | .bool _ => 1 | .int _ _ => 2 | .flt _ => 3 | .str _ => 4 | .byt _ => 5 | .lst _ => 6 | .tup _ => 7 | .dic _ => 8 | .set _ => 9
def Tr.kids : Tr → List Tr
  | .lst l => l | .tup l => l | .dic l => l | .set l => l | _ => []
/-- two floats in the language's order: what is no number is equal to itself -/
def feq (A B : Nat) : Bool := (decide (fexp A = 2047 ∧ ffrac A ≠ 0) && decide (fexp B = 2047 ∧ ffrac B ≠ 0)) || (Ieee.double.order A B == some .eq)

/-- element by element -/
def allTwo (f : Tr → Tr → Bool) : List Tr → List Tr → Bool
  | [], [] => true
  | x :: l, y :: m => f x y && allTwo f l m
  | _, _ => false
/-- the keys of a dict's kids -/
def keysOf : List Tr → List Tr
  | k :: _ :: l => k :: keysOf l
  | _ => []
/-- each key of l is one of m's, with an equal value -/
def dictIn (f : Tr → Tr → Bool) (m : List Tr) : List Tr → Bool
  | k :: v :: l => lookIn f k v m && dictIn f m l
  | _ => true
where
  lookIn (f : Tr → Tr → Bool) (k v : Tr) : List Tr → Bool
  | k2 :: v2 :: m => if f k2 k then f v v2 else lookIn f k v m
  | _ => false

/-- spec.Equal, of so many levels -/
def eqv : Nat → Tr → Tr → Bool
  | 0, _, _ => false
  | d + 1, x, y =>
    match x, y with
    | .non, .non => true
    | .bool a, .bool b => a == b
    | .int n V, .int m U => sI n V == sI m U
    | .int n V, .flt B => fcAll (sI n V) B == 0
    | .flt B, .int n V => fcAll (sI n V) B == 0
    | .flt A, .flt B => feq A B
    | .str a, .str b => decide (a = b)
    | .byt a, .byt b => decide (a = b)
    | .lst l, .lst m => allTwo (eqv d) l m
    | .tup l, .tup m => allTwo (eqv d) l m
    | .dic l, .dic m => l.length == m.length && dictIn (eqv d) m l
    | .set l, .set m => l.length == m.length && l.all fun x => m.any fun y => eqv d y x
    | _, _ => false

/-- at most so many levels -/
def Lev : Nat → Tr → Prop
  | 0, _ => False
  | d + 1, x => ∀ k ∈ x.kids, Lev d k

/-- it can be a key: no list, dict, set in it -/
def KeyT : Nat → Tr → Prop
  | 0, _ => False
  | d + 1, x =>
    match x with
    | .lst _ | .dic _ | .set _ => False
    | .tup l => ∀ k ∈ l, KeyT d k
    | _ => True

/-- no two of them are equal -/
def Apart (d : Nat) : List Tr → Prop
  | [] => True
  | x :: l => (∀ y ∈ l, eqv d x y = false) ∧ Apart d l

theorem dorder_eq_comm (a b : Ieee.Datum) : (a.order b == some .eq) = (b.order a == some .eq) := by
  cases a with
  | number s m i =>
    cases b with
    | number t n j =>
      rw [signed_cmp, signed_cmp, Int.min_comm j i]
      generalize Ieee.signed s m _ = x
      generalize Ieee.signed t n _ = y
      rcases Int.lt_trichotomy x y with h | h | h
      · rw [Int.compare_eq_lt.2 h, Int.compare_eq_gt.2 h]; rfl
      · rw [h]
      · rw [Int.compare_eq_gt.2 h, Int.compare_eq_lt.2 h]; rfl
    | infinity t => cases t <;> rfl
    | nan t f => rfl
  | infinity s =>
    cases b with
    | number t n j => cases s <;> rfl
    | infinity t => cases s <;> cases t <;> rfl
    | nan t f => rfl
  | nan s f => cases b <;> rfl
theorem feq_comm (A B : Nat) : feq A B = feq B A := by
  unfold feq Ieee.Format.order
  rw [dorder_eq_comm, Bool.and_comm]
theorem allTwo_comm {f : Tr → Tr → Bool} : ∀ (l m : List Tr), (∀ x ∈ l, ∀ y ∈ m, f x y = f y x) → allTwo f l m = allTwo f m l
  | [], [], _ => rfl
  | [], _ :: _, _ => rfl
  | _ :: _, [], _ => rfl
  | x :: l, y :: m, h => by
    show (f x y && allTwo f l m) = (f y x && allTwo f m l)
    rw [h x (by simp) y (by simp), allTwo_comm l m (fun a ha b hb => h a (by simp [ha]) b (by simp [hb]))]
theorem eqv_comm : ∀ (d : Nat) (x y : Tr), KeyT d x → KeyT d y → eqv d x y = eqv d y x
  | 0, _, _, h, _ => h.elim
  | d + 1, x, y, hx, hy => by
    cases x <;> cases y <;> first | rfl | (exact hx.elim) | (exact hy.elim) | skip
    all_goals simp only [eqv]
    · exact Bool.beq_comm
    · exact Bool.beq_comm
    · exact feq_comm _ _
    · exact decide_eq_decide.2 eq_comm
    · exact decide_eq_decide.2 eq_comm
    · exact allTwo_comm _ _ (fun a ha b hb => eqv_comm d a b (hx a ha) (hy b hb))
end Go.Proofs.YtpcleebnfgnhdaaGreatDoor

/- What lies in memory: a value of the specification, a value of the package, of a tree. -/
set_option linter.unusedVariables false
set_option linter.unusedSimpArgs false
namespace Go.Proofs.YtpcleebnfgnhdaaGreatDoor
open Go.RowKit
open Num

/-- the six cells at a place of a block -/
def V6 (w : World) (g p : Nat) (v : Value) : Prop := ∃ c0 c1 c2 c3 c4 c5, v = .agg #[c0, c1, c2, c3, c4, c5] ∧ w.cell? ⟨g, p, none⟩ = some c0 ∧ w.cell? ⟨g, p + 1, none⟩ = some c1 ∧ w.cell? ⟨g, p + 2, none⟩ = some c2 ∧ w.cell? ⟨g, p + 3, none⟩ = some c3 ∧ w.cell? ⟨g, p + 4, none⟩ = some c4 ∧ w.cell? ⟨g, p + 5, none⟩ = some c5
/-- a slice of values of the specification -/
def KidsAt (w : World) (P : Value → Tr → Prop) (ks : Value) (l : List Tr) : Prop :=
  (l = [] ∧ ∃ a c, ks = .slice a 0 c) ∨
  (0 < l.length ∧ ∃ g p c, ks = .slice (some ⟨g, p, none⟩) l.length c ∧ l.length ≤ c ∧ c ≤ 9223372036854775807 ∧ g < w.heap.size ∧ ∀ i (h : i < l.length), ∃ u, V6 w g (p + i * 6) u ∧ P u l[i])
abbrev valSix (k : Int) (bits : Int) (text : ByteArray) (ks : Value) : Value := .agg #[.int .i64 k, .bool false, .slice none 0 0, .int .u64 bits, .string text, ks]
/-- a value of the specification, of so many levels -/
def ValAt (w : World) : Nat → Value → Tr → Prop
  | 0, _, _ => False
  | d + 1, v, T =>
    match T with
    | .non => v = valSix 0 0 ⟨#[]⟩ (.slice none 0 0)
    | .bool b => v = valSix 1 (if b then 1 else 0) ⟨#[]⟩ (.slice none 0 0)
    | .int n V => ∃ s m, v = .agg #[.int .i64 2, .bool n, s, .int .u64 0, .string ⟨#[]⟩, .slice none 0 0] ∧ MagAt w s m V ∧ m ≤ 40 ∧ (n = true → 0 < V)
    | .flt B => v = valSix 3 B ⟨#[]⟩ (.slice none 0 0) ∧ B < 18446744073709551616
    | .str s => v = valSix 4 0 s (.slice none 0 0) ∧ s.size ≤ 60
    | .byt s => v = valSix 5 0 s (.slice none 0 0) ∧ s.size ≤ 60
    | .lst l => ∃ ks, v = valSix 6 0 ⟨#[]⟩ ks ∧ KidsAt w (ValAt w d) ks l
    | .tup l => ∃ ks, v = valSix 7 0 ⟨#[]⟩ ks ∧ KidsAt w (ValAt w d) ks l
    | .dic l => ∃ ks, v = valSix 8 0 ⟨#[]⟩ ks ∧ KidsAt w (ValAt w d) ks l
    | .set l => ∃ ks, v = valSix 9 0 ⟨#[]⟩ ks ∧ KidsAt w (ValAt w d) ks l

theorem V6.below {w w' : World} {g p : Nat} {v : Value} (h : V6 w g p v) (hg : g < w.heap.size) (hb : Below w.heap.size w w') : V6 w' g p v := by
  obtain ⟨c0, c1, c2, c3, c4, c5, e, h0, h1, h2, h3, h4, h5⟩ := h
  exact ⟨c0, c1, c2, c3, c4, c5, e, (hb.cell (p := ⟨g, p, none⟩) hg).trans h0, (hb.cell (p := ⟨g, p + 1, none⟩) hg).trans h1, (hb.cell (p := ⟨g, p + 2, none⟩) hg).trans h2, (hb.cell (p := ⟨g, p + 3, none⟩) hg).trans h3, (hb.cell (p := ⟨g, p + 4, none⟩) hg).trans h4, (hb.cell (p := ⟨g, p + 5, none⟩) hg).trans h5⟩
theorem KidsAt.below {w w' : World} {P Q : Value → Tr → Prop} {ks : Value} {l : List Tr} (h : KidsAt w P ks l) (hb : Below w.heap.size w w') (hPQ : ∀ u t, P u t → Q u t) : KidsAt w' Q ks l := by
  rcases h with h | ⟨h0, g, p, c, e, hc, hc2, hg, hk⟩
  · exact .inl h
  · exact .inr ⟨h0, g, p, c, e, hc, hc2, Nat.lt_of_lt_of_le hg hb.size, fun i hi => by
      obtain ⟨u, hu, hp⟩ := hk i hi
      exact ⟨u, hu.below hg hb, hPQ _ _ hp⟩⟩
theorem ValAt.below {w w' : World} (hb : Below w.heap.size w w') : ∀ (d : Nat) (v : Value) (T : Tr), ValAt w d v T → ValAt w' d v T
  | 0, _, _, h => h
  | d + 1, v, T, h => by
    cases T with
    | non => exact h
    | bool b => exact h
    | int n V =>
      obtain ⟨s, m, e, hm, h1, h2⟩ := h
      exact ⟨s, m, e, hm.below hb, h1, h2⟩
    | flt B => exact h
    | str s => exact h
    | byt s => exact h
    | lst l => obtain ⟨ks, e, hk⟩ := h; exact ⟨ks, e, hk.below hb (fun u t => ValAt.below hb d u t)⟩
    | tup l => obtain ⟨ks, e, hk⟩ := h; exact ⟨ks, e, hk.below hb (fun u t => ValAt.below hb d u t)⟩
    | dic l => obtain ⟨ks, e, hk⟩ := h; exact ⟨ks, e, hk.below hb (fun u t => ValAt.below hb d u t)⟩
    | set l => obtain ⟨ks, e, hk⟩ := h; exact ⟨ks, e, hk.below hb (fun u t => ValAt.below hb d u t)⟩

/-- a slice of values of the package -/
def ElemsAt (w : World) (P : Value → Tr → Prop) (s : Value) (l : List Tr) : Prop :=
  (l = [] ∧ ∃ a c, s = .slice a 0 c) ∨
  (0 < l.length ∧ ∃ g p c, s = .slice (some ⟨g, p, none⟩) l.length c ∧ l.length ≤ c ∧ c ≤ 9223372036854775807 ∧ g < w.heap.size ∧ ∀ i (h : i < l.length), ∃ u, w.cell? ⟨g, p + i, none⟩ = some u ∧ P u l[i])
theorem ElemsAt.below {w w' : World} {P Q : Value → Tr → Prop} {s : Value} {l : List Tr} (h : ElemsAt w P s l) (hb : Below w.heap.size w w') (hPQ : ∀ u t, P u t → Q u t) : ElemsAt w' Q s l := by
  rcases h with h | ⟨h0, g, p, c, e, hc, hc2, hg, hk⟩
  · exact .inl h
  · exact .inr ⟨h0, g, p, c, e, hc, hc2, Nat.lt_of_lt_of_le hg hb.size, fun i hi => by
      obtain ⟨u, hu, hp⟩ := hk i hi
      exact ⟨u, (hb.cell (p := ⟨g, p + i, none⟩) hg).trans hu, hPQ _ _ hp⟩⟩

/-- an entry's five cells, in a table of n entries that was filled from slot 7 down: the slot's number, which cell -/
def htEnt (b n : Nat) (H : Nat → Nat) (K V : Nat → Value) (i r : Nat) : Value :=
  if 8 - n ≤ i then
    (if r = 0 then .int .u32 (H (7 - i)) else if r = 1 then K (7 - i) else if r = 2 then V (7 - i)
     else if r = 3 then (if 8 - n < i then .pointer (some ⟨b, 1 + 5 * (i - 1), none⟩) else .pointer none)
     else (if i = 7 then .pointer (some ⟨b, 44, none⟩) else .pointer (some ⟨b, 1 + 5 * (i + 1) + 3, none⟩)))
  else (if r = 0 then .int .u32 0 else if r = 1 then .nilIface else if r = 2 then .nilIface else .pointer none)
/-- a hash table's cells: laid: it has a table -/
def htCell (b : Nat) (laid : Bool) (n : Nat) (H : Nat → Nat) (K V : Nat → Value) (j : Nat) : Value :=
  if j = 0 then (if laid then .slice (some ⟨b, 1, none⟩) 1 1 else .slice none 0 0)
  else if j < 41 then htEnt b n H K V ((j - 1) / 5) ((j - 1) % 5)
  else if j = 41 then .pointer none
  else if j = 42 then .int .u32 n
  else if j = 43 then .int .u32 0
  else if j = 44 then (if n = 0 then .pointer none else .pointer (some ⟨b, 36, none⟩))
  else if j = 45 then (if laid then (if n = 0 then .pointer (some ⟨b, 44, none⟩) else .pointer (some ⟨b, 1 + 5 * (8 - n) + 3, none⟩)) else .pointer none)
  else .bool false
end Go.Proofs.YtpcleebnfgnhdaaGreatDoor

/- Plain: the least place's weight. -/
set_option linter.unusedVariables false
namespace Go.Proofs.YtpcleebnfgnhdaaGreatDoor.Num
/-- the least place's weight, upside down; never to be reckoned -/
def pw (n : Nat) : Nat := 2 ^ n
theorem pw_pos (n : Nat) : 0 < pw n := Nat.two_pow_pos n
theorem pw_add (a b n : Nat) (h : b = a + n) : 2 ^ b = 2 ^ a * pw n := by rw [h, Nat.pow_add]; rfl
theorem pw_split (a b n : Nat) (h : a + b = n) : 2 ^ a * 2 ^ b = pw n := by rw [← Nat.pow_add, h]; rfl
def hiP : Nat := pw 1074
theorem hiP_pos : 0 < hiP := pw_pos 1074
theorem hiP_add (a b : Nat) (h : b = a + 1074) : 2 ^ b = 2 ^ a * hiP := pw_add a b 1074 h
theorem hiP_split (a b : Nat) (h : a + b = 1074) : 2 ^ a * 2 ^ b = hiP := pw_split a b 1074 h
end Go.Proofs.YtpcleebnfgnhdaaGreatDoor.Num
