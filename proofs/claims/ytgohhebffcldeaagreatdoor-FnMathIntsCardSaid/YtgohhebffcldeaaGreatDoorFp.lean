/- Floats in plain Lean: what a double's bits stand for; its order; no program in sight. -/
import Derived.Test.YtgohhebffcldeaaGreatDoorNum
import Derived.Laws.FloatArith
set_option linter.unusedVariables false
set_option linter.unusedSimpArgs false
namespace Go.Proofs.YtgohhebffcldeaaGreatDoor
namespace Num
open Ieee

/-- the parts of a double -/
def fneg (B : Nat) : Bool := B / 9223372036854775808 == 1
def fexp (B : Nat) : Nat := B / 4503599627370496 % 2048
def ffrac (B : Nat) : Nat := B % 4503599627370496
def fman (B : Nat) : Nat := if fexp B = 0 then ffrac B else ffrac B + 4503599627370496
def fplace (B : Nat) : Int := if fexp B = 0 then -1074 else (fexp B : Int) - 1075

theorem fexp_lt (B : Nat) : fexp B < 2048 := Nat.mod_lt _ (by decide)
theorem ffrac_lt (B : Nat) : ffrac B < 4503599627370496 := Nat.mod_lt _ (by decide)
theorem fman_lt (B : Nat) : fman B < 9007199254740992 := by
  have := ffrac_lt B
  unfold fman
  split <;> omega
theorem fplace_ge (B : Nat) : -1074 ≤ fplace B := by unfold fplace; split <;> omega

theorem read_double (B : Nat) (hB : B < 18446744073709551616) (hf : fexp B ≠ 2047) : double.read B = .number (fneg B) (fman B) (fplace B) := by
  have hsw : double.signWeight = 9223372036854775808 := by decide
  have hbn : double.binade = 4503599627370496 := by decide
  have hir : double.infRung = 9218868437227405312 := by decide
  have hlp : double.leastPlace = -1074 := by decide
  have hneg : (B / 9223372036854775808 % 2 == 1) = fneg B := by
    unfold fneg
    have : B / 9223372036854775808 < 2 := by omega
    rw [Nat.mod_eq_of_lt this]
  have hr : B % 9223372036854775808 = fexp B * 4503599627370496 + ffrac B := by unfold fexp ffrac; omega
  have h1 := fexp_lt B
  have h2 := ffrac_lt B
  unfold Format.read
  simp only [hsw, hbn, hir, hlp, hneg, hr]
  by_cases h0 : fexp B = 0
  · rw [if_pos (by omega)]
    unfold fman fplace
    rw [if_pos h0, if_pos h0, h0]
    simp
  · rw [if_neg (by omega), if_pos (by omega)]
    unfold fman fplace
    rw [if_neg h0, if_neg h0]
    have e1 : (fexp B * 4503599627370496 + ffrac B) % 4503599627370496 = ffrac B := by omega
    have e2 : (fexp B * 4503599627370496 + ffrac B) / 4503599627370496 = fexp B := by omega
    rw [e1, e2]
    congr 1 <;> omega
theorem read_inf (B : Nat) (hB : B < 18446744073709551616) (hf : fexp B = 2047) (h0 : ffrac B = 0) : double.read B = .infinity (fneg B) := by
  have hsw : double.signWeight = 9223372036854775808 := by decide
  have hbn : double.binade = 4503599627370496 := by decide
  have hir : double.infRung = 9218868437227405312 := by decide
  have hneg : (B / 9223372036854775808 % 2 == 1) = fneg B := by
    unfold fneg
    have : B / 9223372036854775808 < 2 := by omega
    rw [Nat.mod_eq_of_lt this]
  have hr : B % 9223372036854775808 = fexp B * 4503599627370496 + ffrac B := by unfold fexp ffrac; omega
  unfold Format.read
  simp only [hsw, hbn, hir, hneg, hr, hf, h0]
  simp
theorem read_nan (B : Nat) (hB : B < 18446744073709551616) (hf : fexp B = 2047) (h0 : ffrac B ≠ 0) : double.read B = .nan (fneg B) (ffrac B) := by
  have hsw : double.signWeight = 9223372036854775808 := by decide
  have hbn : double.binade = 4503599627370496 := by decide
  have hir : double.infRung = 9218868437227405312 := by decide
  have hneg : (B / 9223372036854775808 % 2 == 1) = fneg B := by
    unfold fneg
    have : B / 9223372036854775808 < 2 := by omega
    rw [Nat.mod_eq_of_lt this]
  have hr : B % 9223372036854775808 = fexp B * 4503599627370496 + ffrac B := by unfold fexp ffrac; omega
  have h2 := ffrac_lt B
  unfold Format.read
  obtain ⟨q, hq⟩ : ∃ q, q = 2047 * 4503599627370496 + ffrac B := ⟨_, rfl⟩
  have c1 : ¬ (q < 4503599627370496) := by omega
  have c2 : ¬ (q < 9218868437227405312) := by omega
  have c3 : ¬ (q = 9218868437227405312) := by omega
  have c4 : q - 9218868437227405312 = ffrac B := by omega
  simp only [hsw, hbn, hir, hneg, hr, hf, ← hq, c1, c2, c3, c4, if_false]

theorem order_self (B : Nat) (hB : B < 18446744073709551616) : double.order B B = if fexp B = 2047 ∧ ffrac B ≠ 0 then none else some .eq := by
  unfold Format.order
  by_cases h : fexp B = 2047
  · by_cases h0 : ffrac B = 0
    · rw [read_inf B hB h h0, if_neg (by simp [h0])]
      simp [Datum.order]
    · rw [read_nan B hB h h0, if_pos ⟨h, h0⟩]
      simp [Datum.order]
  · rw [read_double B hB h, if_neg (fun q => h q.1)]
    simp [Datum.order]

theorem signed_cmp (s : Bool) (m : Nat) (i : Int) (t : Bool) (n : Nat) (j : Int) : Datum.order (.number s m i) (.number t n j) = some (compare (signed s m (i - min i j).toNat) (signed t n (j - min i j).toNat)) := rfl

theorem signed_false (m u : Nat) : signed false m u = ((m * 2 ^ u : Nat) : Int) := by simp [signed, Nat.shiftLeft_eq]
theorem signed_true (m u : Nat) : signed true m u = -((m * 2 ^ u : Nat) : Int) := by simp [signed, Nat.shiftLeft_eq]
theorem fplace_hi {B : Nat} (h : 0 ≤ fplace B) : 4503599627370496 ≤ fman B := by
  unfold fplace at h
  split at h
  · omega
  · rename_i h0
    unfold fman
    rw [if_neg h0]
    omega

/-- the double 2^63 -/
theorem read_2_63 : double.read 4890909195324358656 = .number false 4503599627370496 11 := by decide
theorem read_m2_63 : double.read 14114281232179134464 = .number true 4503599627370496 11 := by decide
theorem read_max : double.read 9218868437227405311 = .number false 9007199254740991 971 := by decide

theorem pow_base (p q : Int) (h : p ≤ q) : (p - min p q).toNat = 0 ∧ (q - min p q).toNat = (q - p).toNat := by
  rw [Int.min_eq_left h]; omega

/-- x < 2^63 -/
theorem lt_2_63 (B : Nat) (hB : B < 18446744073709551616) (hf : fexp B ≠ 2047) : (double.order B 4890909195324358656 == some .lt) = (fneg B || decide (fplace B ≤ 10)) := by
  unfold Format.order
  rw [read_double B hB hf, read_2_63, signed_cmp]
  have hM := fman_lt B
  cases hn : fneg B
  · rw [signed_false, signed_false]
    by_cases hp : fplace B ≤ 10
    · obtain ⟨e1, e2⟩ := pow_base (fplace B) 11 (by omega)
      rw [e1, e2]
      have h2 : 2 ^ 1 ≤ 2 ^ (11 - fplace B).toNat := Nat.pow_le_pow_right (by omega) (by omega)
      have h3 : 4503599627370496 * 2 ≤ 4503599627370496 * 2 ^ (11 - fplace B).toNat := Nat.mul_le_mul_left _ (by simpa using h2)
      have hlt : fman B * 2 ^ 0 < 4503599627370496 * 2 ^ (11 - fplace B).toNat := by omega
      have : compare ((fman B * 2 ^ 0 : Nat) : Int) ((4503599627370496 * 2 ^ (11 - fplace B).toNat : Nat) : Int) = .lt := by
        rw [Int.compare_eq_lt]; exact Int.ofNat_lt.2 hlt
      rw [this]; simp [hp]
    · have h4 := fplace_hi (B := B) (by omega)
      have e1 : (11 - min (fplace B) 11).toNat = 0 := by rw [Int.min_eq_right (by omega)]; omega
      rw [e1]
      have h2 : 1 ≤ 2 ^ (fplace B - min (fplace B) 11).toNat := Nat.one_le_two_pow
      have h3 : fman B * 1 ≤ fman B * 2 ^ (fplace B - min (fplace B) 11).toNat := Nat.mul_le_mul_left _ h2
      have hge : 4503599627370496 * 2 ^ 0 ≤ fman B * 2 ^ (fplace B - min (fplace B) 11).toNat := by omega
      have : compare ((fman B * 2 ^ (fplace B - min (fplace B) 11).toNat : Nat) : Int) ((4503599627370496 * 2 ^ 0 : Nat) : Int) ≠ .lt := by
        intro h
        rw [Int.compare_eq_lt] at h
        have := Int.ofNat_lt.1 h
        omega
      revert this
      generalize compare ((fman B * 2 ^ (fplace B - min (fplace B) 11).toNat : Nat) : Int) ((4503599627370496 * 2 ^ 0 : Nat) : Int) = c
      intro this
      cases c <;> simp_all
  · rw [signed_true, signed_false]
    have h2 : 1 ≤ 2 ^ (11 - min (fplace B) 11).toNat := Nat.one_le_two_pow
    have h3 : 4503599627370496 * 1 ≤ 4503599627370496 * 2 ^ (11 - min (fplace B) 11).toNat := Nat.mul_le_mul_left _ h2
    have : compare (-((fman B * 2 ^ (fplace B - min (fplace B) 11).toNat : Nat) : Int)) ((4503599627370496 * 2 ^ (11 - min (fplace B) 11).toNat : Nat) : Int) = .lt := by
      rw [Int.compare_eq_lt]
      have := Int.natCast_nonneg (fman B * 2 ^ (fplace B - min (fplace B) 11).toNat)
      omega
    rw [this]; simp

/-- -2^63 ≤ x -/
theorem ge_m2_63 (B : Nat) (hB : B < 18446744073709551616) (hf : fexp B ≠ 2047) : (double.order 14114281232179134464 B == some .lt || double.order 14114281232179134464 B == some .eq) = (!fneg B || decide (fplace B ≤ 10) || decide (fplace B = 11 ∧ fman B = 4503599627370496)) := by
  unfold Format.order
  rw [read_double B hB hf, read_m2_63, signed_cmp]
  have hM := fman_lt B
  cases hn : fneg B
  · rw [signed_true, signed_false]
    have h2 : 1 ≤ 2 ^ (11 - min 11 (fplace B)).toNat := Nat.one_le_two_pow
    have h3 : 4503599627370496 * 1 ≤ 4503599627370496 * 2 ^ (11 - min 11 (fplace B)).toNat := Nat.mul_le_mul_left _ h2
    have : compare (-((4503599627370496 * 2 ^ (11 - min 11 (fplace B)).toNat : Nat) : Int)) ((fman B * 2 ^ (fplace B - min 11 (fplace B)).toNat : Nat) : Int) = .lt := by
      rw [Int.compare_eq_lt]
      have := Int.natCast_nonneg (fman B * 2 ^ (fplace B - min 11 (fplace B)).toNat)
      omega
    rw [this]; simp
  · rw [signed_true, signed_true]
    by_cases hp : fplace B ≤ 10
    · have e1 : (fplace B - min 11 (fplace B)).toNat = 0 := by rw [Int.min_eq_right (by omega)]; omega
      have e2 : (11 - min 11 (fplace B)).toNat = (11 - fplace B).toNat := by rw [Int.min_eq_right (by omega)]
      rw [e1, e2]
      have h2 : 2 ^ 1 ≤ 2 ^ (11 - fplace B).toNat := Nat.pow_le_pow_right (by omega) (by omega)
      have h3 : 4503599627370496 * 2 ≤ 4503599627370496 * 2 ^ (11 - fplace B).toNat := Nat.mul_le_mul_left _ (by simpa using h2)
      have hlt : fman B * 2 ^ 0 < 4503599627370496 * 2 ^ (11 - fplace B).toNat := by omega
      have : compare (-((4503599627370496 * 2 ^ (11 - fplace B).toNat : Nat) : Int)) (-((fman B * 2 ^ 0 : Nat) : Int)) = .lt := by
        rw [Int.compare_eq_lt]
        have := Int.ofNat_lt.2 hlt
        omega
      rw [this]; simp [hp]
    · have h4 := fplace_hi (B := B) (by omega)
      have e1 : (11 - min 11 (fplace B)).toNat = 0 := by rw [Int.min_eq_left (by omega)]; omega
      have e2 : (fplace B - min 11 (fplace B)).toNat = (fplace B - 11).toNat := by rw [Int.min_eq_left (by omega)]
      rw [e1, e2]
      by_cases hq : fplace B = 11 ∧ fman B = 4503599627370496
      · rw [hq.1, hq.2]; simp
      · have hgt : 4503599627370496 * 2 ^ 0 < fman B * 2 ^ (fplace B - 11).toNat := by
          by_cases h11 : fplace B = 11
          · have : fman B ≠ 4503599627370496 := fun e => hq ⟨h11, e⟩
            rw [h11]; simp; omega
          · have h2 : 2 ^ 1 ≤ 2 ^ (fplace B - 11).toNat := Nat.pow_le_pow_right (by omega) (by omega)
            have h3 : fman B * 2 ≤ fman B * 2 ^ (fplace B - 11).toNat := Nat.mul_le_mul_left _ (by simpa using h2)
            omega
        have : compare (-((4503599627370496 * 2 ^ 0 : Nat) : Int)) (-((fman B * 2 ^ (fplace B - 11).toNat : Nat) : Int)) = .gt := by
          rw [Int.compare_eq_gt]
          have := Int.ofNat_lt.2 hgt
          omega
        rw [this]; simp [hp, hq]

/-- |x| > the greatest double -/
theorem gt_max (A : Nat) (hA : A < 9223372036854775808) (hn : ¬ (fexp A = 2047 ∧ ffrac A ≠ 0)) : (double.order A 9218868437227405311 == some .gt) = decide (fexp A = 2047) := by
  have hneg : fneg A = false := by unfold fneg; rw [Nat.div_eq_of_lt hA]; rfl
  unfold Format.order
  rw [read_max]
  by_cases hf : fexp A = 2047
  · have h0 : ffrac A = 0 := by
      rcases Nat.eq_zero_or_pos (ffrac A) with h | h
      · exact h
      · exact absurd ⟨hf, by omega⟩ hn
    rw [read_inf A (by omega) hf h0, hneg]
    simp [Datum.order, hf]
  · rw [read_double A (by omega) hf, signed_cmp, hneg, signed_false, signed_false]
    have hM := fman_lt A
    have hp : fplace A ≤ 971 := by
      have := fexp_lt A
      unfold fplace; split <;> omega
    obtain ⟨e1, e2⟩ := pow_base (fplace A) 971 hp
    rw [e1, e2]
    have h2 : 1 ≤ 2 ^ (971 - fplace A).toNat := Nat.one_le_two_pow
    have h3 : 9007199254740991 * 1 ≤ 9007199254740991 * 2 ^ (971 - fplace A).toNat := Nat.mul_le_mul_left _ h2
    have hle : fman A * 2 ^ 0 ≤ 9007199254740991 * 2 ^ (971 - fplace A).toNat := by omega
    have : compare ((fman A * 2 ^ 0 : Nat) : Int) ((9007199254740991 * 2 ^ (971 - fplace A).toNat : Nat) : Int) ≠ .gt := by
      intro h
      rw [Int.compare_eq_gt] at h
      have := Int.ofNat_lt.1 h
      omega
    revert this
    generalize compare ((fman A * 2 ^ 0 : Nat) : Int) ((9007199254740991 * 2 ^ (971 - fplace A).toNat : Nat) : Int) = c
    intro this
    cases c <;> simp_all

/-- the whole part of a double's magnitude -/
def fwhole (B : Nat) : Nat := if 0 ≤ fplace B then fman B * 2 ^ (fplace B).toNat else fman B / 2 ^ (-fplace B).toNat
theorem cut_zero (neg : Bool) (n drop : Nat) : Toward.zero.cut neg n drop = n / 2 ^ drop := by
  unfold Toward.cut
  simp only [Nat.one_shiftLeft, Bool.toNat_false, Nat.add_zero]
  by_cases h : drop ≤ n.log2 + 2
  · rw [Nat.min_eq_left h]
  · rw [Nat.min_eq_right (by omega)]
    have h1 : n < 2 ^ (n.log2 + 2) := Nat.lt_of_lt_of_le Nat.lt_log2_self (Nat.pow_le_pow_right (by omega) (by omega))
    have h2 : n < 2 ^ drop := Nat.lt_of_lt_of_le h1 (Nat.pow_le_pow_right (by omega) (by omega))
    rw [Nat.div_eq_of_lt h1, Nat.div_eq_of_lt h2]
theorem toInt_double (B : Nat) (hB : B < 18446744073709551616) (hf : fexp B ≠ 2047) : (double.read B).toInt .zero = some (if fneg B then -(fwhole B : Int) else (fwhole B : Int)) := by
  rw [read_double B hB hf]
  unfold Datum.toInt Datum.integral
  simp only [cut_zero, Nat.shiftLeft_eq]
  have hw : fman B * 2 ^ (fplace B).toNat / 2 ^ (-fplace B).toNat = fwhole B := by
    unfold fwhole
    by_cases h : 0 ≤ fplace B
    · rw [if_pos h, show (-fplace B).toNat = 0 by omega]; simp
    · rw [if_neg h, show (fplace B).toNat = 0 by omega]; simp
  rw [hw]
  cases fneg B
  · simp [signed_false]
  · simp [signed_true]

end Num
end Go.Proofs.YtgohhebffcldeaaGreatDoor
