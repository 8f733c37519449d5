/- Walks: math.normalize, Frexp, Ldexp of a positive normal double. Walk: math.Mod of two floats that are integers. Walks: spec.MathArg of an integer, laws.isFloat, math.Copysign, Abs, Mod. -/
import Derived.Test.YtgohhebffcldeaaGreatDoorFloX
import Derived.Test.YtgohhebffcldeaaGreatDoorFin2
import Derived.Test.YtgohhebffcldeaaGreatDoorZer
import Derived.Test.YtgohhebffcldeaaGreatDoorWholeF
import Derived.Test.YtgohhebffcldeaaGreatDoorNearY
import Derived.Test.YtgohhebffcldeaaGreatDoorSpecP
set_option linter.unusedVariables false
set_option linter.unusedSimpArgs false
namespace Go.Proofs.YtgohhebffcldeaaGreatDoor
open Go.RowKit
open Num
open Ieee

theorem andNot_exp (B : Nat) (hB : B < 9223372036854775808) : bits .andNot .u64 (B : Int) 9218868437227405312 = ((B % 4503599627370496 : Nat) : Int) := by
  have h1 : (BitVec.ofInt 64 (B : Int)).toNat = B := by
    rw [BitVec.ofInt_natCast, BitVec.toNat_ofNat]; exact Nat.mod_eq_of_lt (by omega)
  have h2 : (~~~ (BitVec.ofInt 64 9218868437227405312)).toNat = 9227875636482146303 := by decide
  show IntKind.u64.wrap ((BitVec.ofInt 64 (B : Int) &&& ~~~ (BitVec.ofInt 64 9218868437227405312)).toNat : Int) = _
  rw [BitVec.toNat_and, h1, h2, IntKind.wrap_u64]
  have h3 : B &&& 4503599627370495 = B % 4503599627370496 := Nat.and_two_pow_sub_one_eq_mod B 52
  have h4 : B &&& 9223372036854775807 = B := (Nat.and_two_pow_sub_one_eq_mod B 63).trans (Nat.mod_eq_of_lt hB)
  have h5 : B &&& 9227875636482146303 = B &&& 4503599627370495 := by
    have h6 : (B &&& 9223372036854775807) &&& 9227875636482146303 = B &&& (9223372036854775807 &&& 9227875636482146303) := Nat.and_assoc _ _ _
    rw [h4, show (9223372036854775807 &&& 9227875636482146303 : Nat) = 4503599627370495 by decide] at h6
    exact h6
  rw [h5, h3]
  omega
theorem and_i64_2047 (x : Nat) (hx : x < 9223372036854775808) : bits .and .i64 (x : Int) 2047 = ((x % 2048 : Nat) : Int) := by
  have h1 : (BitVec.ofInt 64 (x : Int)).toNat = x := by
    rw [BitVec.ofInt_natCast, BitVec.toNat_ofNat]; exact Nat.mod_eq_of_lt (by omega)
  have h2 : (BitVec.ofInt 64 2047).toNat = 2047 := by decide
  have h3 : x &&& 2047 = x % 2048 := Nat.and_two_pow_sub_one_eq_mod x 11
  show IntKind.i64.wrap ((BitVec.ofInt 64 (x : Int) &&& BitVec.ofInt 64 2047).toNat : Int) = _
  rw [BitVec.toNat_and, h1, h2, h3, IntKind.wrap_i64]
  omega
theorem or_exp (e f : Nat) (he : e < 4096) (hf : f < 4503599627370496) : bits .or .u64 (f : Int) ((e * 4503599627370496 : Nat) : Int) = ((e * 4503599627370496 + f : Nat) : Int) := by
  have := bits_or_u64_nat f (e * 4503599627370496) (by omega) (by omega)
  have h2 : f ||| e * 4503599627370496 = e * 4503599627370496 + f := by
    have := Nat.two_pow_add_eq_or_of_lt (i := 52) (b := f) hf e
    rw [Nat.or_comm]
    have e52 : (2 : Nat) ^ 52 = 4503599627370496 := by decide
    rw [e52, Nat.mul_comm 4503599627370496 e] at this
    exact this.symm
  rw [h2] at this
  exact this

theorem ord_zero (B : Nat) (hB : B < 9223372036854775808) (hf : fexp B ≠ 2047) (hM : 0 < fman B) : double.order B 0 = some .gt := by
  have na : fneg B = false := by unfold fneg; rw [Nat.div_eq_of_lt hB]; rfl
  unfold Format.order
  rw [read_double B (by omega) hf, read_zero, signed_cmp, na, signed_false, signed_false]
  have h := Nat.mul_pos hM (Nat.two_pow_pos (fplace B - min (fplace B) (-1074)).toNat)
  rw [Nat.zero_mul]
  exact congrArg some (Int.compare_eq_gt.2 (by omega))
theorem cmp_not_lt (a b : Nat) (h : b ≤ a) : (some (compare (a : Int) (b : Int)) == some .lt) = false := by
  have : compare (a : Int) (b : Int) ≠ .lt := by
    intro e
    rw [Int.compare_eq_lt] at e
    omega
  simpa using this
theorem read_small : double.read 4503599627370496 = .number false 4503599627370496 (-1074) := by decide
theorem not_small (B : Nat) (hB : B < 9223372036854775808) (hf : fexp B ≠ 2047) (h1 : 1 ≤ fexp B) : (double.order B 4503599627370496 == some .lt) = false := by
  have na : fneg B = false := by unfold fneg; rw [Nat.div_eq_of_lt hB]; rfl
  have hm : 4503599627370496 ≤ fman B := by unfold fman; rw [if_neg (by omega)]; omega
  have hg := fplace_ge B
  unfold Format.order
  rw [read_double B (by omega) hf, read_small, signed_cmp, na, signed_false, signed_false, Int.min_eq_right hg, Int.sub_self, Int.toNat_zero, Nat.pow_zero, Nat.mul_one]
  exact cmp_not_lt _ _ (Nat.le_trans hm (Nat.le_mul_of_pos_right _ (Nat.two_pow_pos _)))
theorem read_one : double.read 4607182418800017408 = .number false 4503599627370496 (-52) := by decide
theorem mul_one_double (B : Nat) (hB : B < 18446744073709551616) (hf : fexp B ≠ 2047) (hM : 0 < fman B) : double.mul 4607182418800017408 B = some B := by
  unfold Format.mul
  rw [read_one, read_double B hB hf]
  show some (double.nearest (false ^^ fneg B) (4503599627370496 * fman B) (-52 + fplace B)) = _
  rw [Bool.false_xor, nearest_exact B hB hf hM _ _ (.inr ⟨52, by omega, by rw [Nat.mul_comm]⟩)]

theorem normalize_any (B : Nat) (hB : B < 9223372036854775808) (hf : fexp B ≠ 2047) (h1 : 1 ≤ fexp B) (w : World) :
    Calls Tryz.prog 143 #[.float .f64 B] w fun e w' => e = .returned (.tuple #[.float .f64 B, .int .i64 0]) ∧ w' = w := by
  have HA := Lib.hid (Abs_any B (by omega) w)
  rw [Nat.mod_eq_of_lt hB] at HA
  have hs : (FloatKind.f64.format.order B 4503599627370496 == some .lt) = false := not_small B hB hf h1
  clear hf h1
  go_enter Tryz.func143, Tryz.ntmps143
  go_wp2_with fail
  refine HA.out.mono ?_
  rintro e w2 ⟨rfl, rfl⟩
  go_wp2
  go_ret2
  exact ⟨rfl, rfl⟩

set_option maxRecDepth 100000 in
theorem frexp_any (B : Nat) (hB : B < 9223372036854775808) (hf : fexp B ≠ 2047) (h1 : 1 ≤ fexp B) (w : World) :
    Calls Tryz.prog 113 #[.float .f64 B] w fun e w' => e = .returned (.tuple #[.float .f64 (1022 * 4503599627370496 + ffrac B), .int .i64 ((fexp B : Int) - 1023 + 1)]) ∧ w' = w := by
  have hM : 0 < fman B := by unfold fman; rw [if_neg (by omega)]; omega
  have hn : ¬ (fexp B = 2047 ∧ ffrac B ≠ 0) := fun h => hf h.1
  have HI := Lib.hid (IsInf_any B (by omega) hn w)
  have HN := Lib.hid (IsNaN_any B (by omega) w)
  rw [decide_eq_false hf] at HI
  rw [decide_eq_false hn] at HN
  have HZ := Lib.hid (normalize_any B hB hf h1 w)
  have ho : (FloatKind.f64.format.order B 0 == some .eq) = false := by
    show (double.order B 0 == some .eq) = false
    rw [ord_zero B hB hf hM]; rfl
  have hb := run_tobits B
  have hx := fexp_lt B
  have hsh : bits .and .u64 ((B : Int) / 4503599627370496) 2047 = ((fexp B : Nat) : Int) := by
    have := and_2047 (B / 4503599627370496) (by omega)
    rw [Int.natCast_ediv] at this
    exact this
  have han := andNot_exp B hB
  have hor : bits .or .u64 ((ffrac B : Nat) : Int) 4602678819172646912 = 4602678819172646912 + ((ffrac B : Nat) : Int) := (or_exp 1022 (ffrac B) (by decide) (ffrac_lt B)).trans (by omega)
  have hfb : ∀ W : World, (callFunc 35 #[.int .u64 (4602678819172646912 + ((ffrac B : Nat) : Int))]).run Tryz.prog W = .ok (.value (.float .f64 (1022 * 4503599627370496 + ffrac B))) W := by
    intro W
    have := run_frombits (4602678819172646912 + ((ffrac B : Nat) : Int)) W
    rwa [show (4602678819172646912 + ((ffrac B : Nat) : Int)).toNat = 1022 * 4503599627370496 + ffrac B by omega] at this
  have hfr : B % 4503599627370496 = ffrac B := rfl
  rw [hfr] at han
  obtain ⟨x, hxx⟩ : ∃ x, x = fexp B := ⟨_, rfl⟩
  obtain ⟨f, hff⟩ : ∃ f, f = ffrac B := ⟨_, rfl⟩
  rw [← hxx] at hsh hx ⊢
  rw [← hff] at han hor hfb ⊢
  clear hf h1 hM hn hxx hff hfr
  go_enter Tryz.func113, Tryz.ntmps113
  go_wp2_with fail
  refine HI.out.mono ?_
  rintro e w2 ⟨rfl, rfl⟩
  go_wp2_with fail
  refine HN.out.mono ?_
  rintro e w3 ⟨rfl, rfl⟩
  go_wp2_with fail
  refine HZ.out.mono ?_
  rintro e w4 ⟨rfl, rfl⟩
  go_wp2
  go_ret2
  exact ⟨rfl, rfl⟩

theorem Frexp_any (B : Nat) (hB : B < 9223372036854775808) (hf : fexp B ≠ 2047) (h1 : 1 ≤ fexp B) (w : World) :
    Calls Tryz.prog 74 #[.float .f64 B] w fun e w' => e = .returned (.tuple #[.float .f64 (1022 * 4503599627370496 + ffrac B), .int .i64 ((fexp B : Int) - 1023 + 1)]) ∧ w' = w := by
  have H := Lib.hid (frexp_any B hB hf h1 w)
  obtain ⟨r, hr⟩ : ∃ r, r = 1022 * 4503599627370496 + ffrac B := ⟨_, rfl⟩
  obtain ⟨x, hx⟩ : ∃ x : Int, x = (fexp B : Int) - 1023 + 1 := ⟨_, rfl⟩
  rw [← hr, ← hx] at H ⊢
  clear hr hx
  go_enter Tryz.func74, Tryz.ntmps74
  go_wp2_with fail
  refine H.out.mono ?_
  rintro e w2 ⟨rfl, rfl⟩
  go_wp2
  go_ret2
  exact ⟨rfl, rfl⟩

set_option maxRecDepth 100000 in
theorem ldexp_any (B e : Nat) (k : Int) (hB : B < 9223372036854775808) (hf : fexp B ≠ 2047) (h1 : 1 ≤ fexp B) (he : (e : Int) = (fexp B : Int) + k) (he1 : 1 ≤ e) (he2 : e ≤ 2046) (w : World) :
    Calls Tryz.prog 115 #[.float .f64 B, .int .i64 k] w fun r w' => r = .returned (.float .f64 (e * 4503599627370496 + ffrac B)) ∧ w' = w := by
  have hM : 0 < fman B := by unfold fman; rw [if_neg (by omega)]; omega
  have hn : ¬ (fexp B = 2047 ∧ ffrac B ≠ 0) := fun h => hf h.1
  have HI := Lib.hid (IsInf_any B (by omega) hn w)
  have HN := Lib.hid (IsNaN_any B (by omega) w)
  rw [decide_eq_false hf] at HI
  rw [decide_eq_false hn] at HN
  have HZ := Lib.hid (normalize_any B hB hf h1 w)
  have ho : (FloatKind.f64.format.order B 0 == some .eq) = false := by
    show (double.order B 0 == some .eq) = false
    rw [ord_zero B hB hf hM]; rfl
  have hb := run_tobits B
  have hx := fexp_lt B
  have hsh : bits .and .i64 ((B : Int) / 4503599627370496) 2047 = ((fexp B : Nat) : Int) := by
    have := and_i64_2047 (B / 4503599627370496) (by omega)
    rw [Int.natCast_ediv] at this
    exact this
  have han := andNot_exp B hB
  have hfr : B % 4503599627370496 = ffrac B := rfl
  rw [hfr] at han
  obtain ⟨p1, p2, p3, p4⟩ := parts_double e (ffrac B) (by omega) (ffrac_lt B)
  have hmul := mul_one_double (e * 4503599627370496 + ffrac B) (by omega) (by rw [p2]; omega) (by unfold fman; rw [p2, if_neg (by omega)]; omega)
  obtain ⟨x, hxx⟩ : ∃ x, x = fexp B := ⟨_, rfl⟩
  obtain ⟨f, hff⟩ : ∃ f, f = ffrac B := ⟨_, rfl⟩
  rw [← hxx] at hsh hx he
  have hf2 : f < 4503599627370496 := by rw [hff]; exact ffrac_lt B
  rw [← hff] at han hmul ⊢
  obtain ⟨Z, hZ⟩ : ∃ Z, Z = e * 4503599627370496 + f := ⟨_, rfl⟩
  rw [← hZ] at hmul ⊢
  have HZZ := Lib.hid hZ; have HMU := Lib.hid hmul; have HF2 := Lib.hid hf2
  have hk1 : -4096 ≤ k ∧ k ≤ 4096 := by omega
  have hsum : k + ((x : Int) - 1023) = (e : Int) - 1023 := by omega
  have hx2 : (x : Int) ≤ 2047 := by omega
  have he3 : (1 : Int) ≤ (e : Int) := by omega
  have he4 : (e : Int) ≤ 2046 := by omega
  have hor0 : bits .or .u64 (f : Int) ((e * 4503599627370496 : Nat) : Int) = (Z : Int) := by rw [hZ]; exact or_exp e f (by omega) hf2
  have HOR := Lib.hid hor0
  clear hor0
  have hfb : ∀ W : World, (callFunc 35 #[.int .u64 (Z : Int)]).run Tryz.prog W = .ok (.value (.float .f64 Z)) W := by
    intro W
    have := run_frombits (Z : Int) W
    rwa [Int.toNat_natCast] at this
  have hml : ∀ W : World, (binOp .mul 31 (.float .f64 4607182418800017408) (.float .f64 Z)).run Tryz.prog W = .ok (.float .f64 Z) W := fun W => run_float_arith W .mul 31 .f64 _ _ _ hmul
  clear hf h1 hM hn hxx hff hfr p1 p2 p3 p4 hZ hmul hf2 he hx
  go_enter Tryz.func115, Tryz.ntmps115
  go_wp2_with fail
  refine HI.out.mono ?_
  rintro e w2 ⟨rfl, rfl⟩
  go_wp2_with fail
  refine HN.out.mono ?_
  rintro e w3 ⟨rfl, rfl⟩
  go_wp2_with fail
  refine HZ.out.mono ?_
  rintro e w4 ⟨rfl, rfl⟩
  have hor : bits .or .u64 (f : Int) ((e : Int) * 4503599627370496) = (Z : Int) := by
    have h := HOR.out
    rw [Int.natCast_mul] at h
    exact h
  go_wp2
  go_ret
  exact ⟨rfl, rfl⟩
end Go.Proofs.YtgohhebffcldeaaGreatDoor

set_option linter.unusedVariables false
set_option linter.unusedSimpArgs false
namespace Go.Proofs.YtgohhebffcldeaaGreatDoor
open Go.RowKit
open Num
open Ieee

theorem Ldexp_any (B e : Nat) (k : Int) (hB : B < 9223372036854775808) (hf : fexp B ≠ 2047) (h1 : 1 ≤ fexp B) (he : (e : Int) = (fexp B : Int) + k) (he1 : 1 ≤ e) (he2 : e ≤ 2046) (w : World) :
    Calls Tryz.prog 75 #[.float .f64 B, .int .i64 k] w fun r w' => r = .returned (.float .f64 (e * 4503599627370496 + ffrac B)) ∧ w' = w := by
  have H := Lib.hid (ldexp_any B e k hB hf h1 he he1 he2 w)
  obtain ⟨r, hr⟩ : ∃ r, r = e * 4503599627370496 + ffrac B := ⟨_, rfl⟩
  rw [← hr] at H ⊢
  clear hr hf h1 he he1 he2
  go_enter Tryz.func75, Tryz.ntmps75
  go_wp2_with fail
  refine H.out.mono ?_
  rintro e w2 ⟨rfl, rfl⟩
  go_wp2
  go_ret
  exact ⟨rfl, rfl⟩

theorem Num.IsV.whole {B N : Nat} (h : IsV B N) : fwhole B = N := by
  unfold IsV at h
  unfold fwhole
  by_cases hp : 0 ≤ fplace B
  · rw [if_pos hp, h, show (-fplace B).toNat = 0 by omega]; simp
  · rw [if_neg hp]
    rw [show (fplace B).toNat = 0 by omega, Nat.pow_zero, Nat.mul_one] at h
    rw [h, Nat.mul_div_cancel _ (Nat.two_pow_pos _)]
/-- the integer in a slot that holds a float -/
def flN (v : Value) : Nat := match v with | .float _ B => fwhole B | _ => 0
theorem Num.IsV.same {A B N : Nat} (h : IsV A N) (h1 : fexp B = fexp A) (h2 : ffrac B = ffrac A) : IsV B N := by
  unfold IsV fman fplace at *
  rw [h1, h2]
  exact h
theorem ord_ne (B : Nat) (hB : B < 18446744073709551616) (hf : fexp B ≠ 2047) (hM : 0 < fman B) : (double.order B 0 == some .eq) = false := by
  unfold Format.order
  rw [read_double B hB hf, read_zero, signed_cmp, signed_false, Nat.zero_mul]
  have h := Nat.mul_pos hM (Nat.two_pow_pos (fplace B - min (fplace B) (-1074)).toNat)
  cases fneg B
  · rw [signed_false]
    generalize fman B * 2 ^ (fplace B - min (fplace B) (-1074)).toNat = a at *
    rw [Int.compare_eq_gt.2 (by omega)]; rfl
  · rw [signed_true]
    generalize fman B * 2 ^ (fplace B - min (fplace B) (-1074)).toNat = a at *
    rw [Int.compare_eq_lt.2 (by omega)]; rfl

theorem ord_ge (A B M N : Nat) (hA : A < 9223372036854775808) (hB : B < 9223372036854775808) (ha : fexp A ≠ 2047) (hb : fexp B ≠ 2047) (vA : IsV A M) (vB : IsV B N) :
    (double.order A B == some .gt || double.order A B == some .eq) = decide (N ≤ M) := by
  rw [ord_cmp A B M N hA hB ha hb vA vB]
  rcases Nat.lt_trichotomy M N with h | h | h
  · rw [Nat.compare_eq_lt.2 h, decide_eq_false (by omega)]; rfl
  · rw [Nat.compare_eq_eq.2 h, decide_eq_true (by omega)]; rfl
  · rw [Nat.compare_eq_gt.2 h, decide_eq_true (by omega)]; rfl

/-- what math.Mod answers -/
def modBits (F V U : Nat) : Nat := if fneg F then Go.Op.negFloat .f64 (double.nearest false (V % U) 0) else double.nearest false (V % U) 0

set_option maxRecDepth 100000 in
set_option maxHeartbeats 1000000 in
theorem mod_any (F G V U : Nat) (hF : F < 18446744073709551616) (hG : G < 18446744073709551616) (hf : fexp F ≠ 2047) (hg : fexp G ≠ 2047) (vF : IsV F V) (vG : IsV G U) (hU : 0 < U) (hs : fneg F = true → 0 < V) (w : World) :
    Calls Tryz.prog 37 #[.float .f64 F, .float .f64 G] w fun e w' => e = .returned (.float .f64 (modBits F V U)) ∧ w' = w := by
  have hMG : 0 < fman G := by
    rcases Nat.eq_zero_or_pos (fman G) with h | h
    · unfold IsV at vG
      rw [h, Nat.zero_mul] at vG
      have := Nat.mul_pos hU (Nat.two_pow_pos (-fplace G).toNat)
      omega
    · exact h
  have g0 : (FloatKind.f64.format.order G 0 == some .eq) = false := ord_ne G hG hg hMG
  have hnF : ¬ (fexp F = 2047 ∧ ffrac F ≠ 0) := fun h => hf h.1
  have hnG : ¬ (fexp G = 2047 ∧ ffrac G ≠ 0) := fun h => hg h.1
  have HI := Lib.hid (IsInf_any F hF hnF w)
  have HNF := Lib.hid (IsNaN_any F hF w)
  have HNG := Lib.hid (IsNaN_any G hG w)
  rw [decide_eq_false hf] at HI
  rw [decide_eq_false hnF] at HNF
  rw [decide_eq_false hnG] at HNG
  have HAB := Lib.hid (Abs_any G hG w)
  obtain ⟨Y, hY⟩ : ∃ Y, Y = G % 9223372036854775808 := ⟨_, rfl⟩
  rw [← hY] at HAB
  have y1 : Y < 9223372036854775808 := by rw [hY]; exact Nat.mod_lt _ (by decide)
  have y2 : fexp Y = fexp G := by rw [hY]; unfold fexp; omega
  have y3 : ffrac Y = ffrac G := by rw [hY]; unfold ffrac; omega
  have vY : IsV Y U := vG.same y2 y3
  have y4 : fexp Y ≠ 2047 := by rw [y2]; exact hg
  have y5 := vY.exp hU
  have HFY := Lib.hid (Frexp_any Y y1 y4 (by omega) w)
  obtain ⟨yf, hyf⟩ : ∃ yf, yf = 1022 * 4503599627370496 + ffrac Y := ⟨_, rfl⟩
  obtain ⟨zy, hzy⟩ : ∃ zy : Int, zy = (fexp Y : Int) - 1023 + 1 := ⟨_, rfl⟩
  rw [← hyf, ← hzy] at HFY
  have hyx := fexp_lt Y
  have hz1 : -4096 ≤ zy := by omega
  have hz2 : zy ≤ 4096 := by omega
  have flt : (FloatKind.f64.format.order F 0 == some .lt) = fneg F := by
    show (double.order F 0 == some .lt) = _
    rcases Nat.eq_zero_or_pos (fman F) with h | h
    · rw [lt_zero0 F hF hf h]
      cases hn : fneg F
      · rfl
      · have hV := hs hn
        unfold IsV at vF
        rw [h, Nat.zero_mul] at vF
        have := Nat.mul_pos hV (Nat.two_pow_pos (-fplace F).toNat)
        omega
    · exact lt_zero F hF hf h
  have HY := Lib.hid (And.intro y1 (And.intro y4 (And.intro vY (And.intro hyf hzy))))
  have hstart : ∃ R, (R = if fneg F then Go.Op.negFloat .f64 F else F) ∧ R < 9223372036854775808 ∧ fexp R ≠ 2047 ∧ IsV R V := by
    obtain ⟨n1, n2, n3, n4⟩ := flip_facts F hF
    cases hn : fneg F
    · refine ⟨F, by simp, ?_, hf, vF⟩
      unfold fneg at hn
      simp at hn
      omega
    · refine ⟨_, by simp, ?_, by rw [n2]; exact hf, vF.same n2 n3⟩
      rw [hn] at n4
      unfold fneg at n4
      simp at n4
      omega
  obtain ⟨R0, hR0, r1, r2, r3⟩ := hstart
  have HR := Lib.hid (And.intro r1 (And.intro r2 r3))
  have hu : ∀ (X : Nat) (W : World), (Go.Op.unary .neg (.float .f64 X)).run Tryz.prog W = .ok (.float .f64 (Go.Op.negFloat .f64 X)) W := fun _ _ => rfl
  have hU' := Lib.hid hU
  obtain ⟨fn, hfn⟩ : ∃ fn, fn = fneg F := ⟨_, rfl⟩
  have hRes : modBits F V U = if fn then Go.Op.negFloat .f64 (double.nearest false (V % U) 0) else double.nearest false (V % U) 0 := by rw [hfn]; rfl
  rw [hRes]
  rw [← hfn] at flt hR0
  clear hRes hfn hf hg vF vG hs hMG hnF hnG hY y1 y2 y3 vY y4 y5 hyf hzy hyx r1 r2 r3 hU
  obtain ⟨rs, hrs⟩ : ∃ rs, rs = double.nearest false (V % U) 0 := ⟨_, rfl⟩
  rw [← hrs]
  have HRS := Lib.hid hrs
  clear hrs
  cases fn
  · rw [if_neg (by decide)]
    rw [if_neg (by decide)] at hR0
    subst hR0
    go_enter Tryz.func37, Tryz.ntmps37
    go_wp2_with fail
    refine HI.out.mono ?_
    rintro e w2 ⟨rfl, rfl⟩
    go_wp2_with fail
    refine HNF.out.mono ?_
    rintro e w3 ⟨rfl, rfl⟩
    go_wp2_with fail
    refine HNG.out.mono ?_
    rintro e w4 ⟨rfl, rfl⟩
    go_wp2_with fail
    refine HAB.out.mono ?_
    rintro e w5 ⟨rfl, rfl⟩
    go_wp2_with fail
    refine HFY.out.mono ?_
    rintro e w6 ⟨rfl, rfl⟩
    go_wp2_with fail
    clear HI HNF HNG HAB HFY g0
    go_loopw [7] (fun r wr => ∃ N R : Nat, r = .float .f64 R ∧ w6 = wr ∧ Hid (R < 9223372036854775808 ∧ fexp R ≠ 2047 ∧ IsV R N ∧ N % U = V % U)) (fun r _ => flN r)
    case atStart => exact ⟨V, R0, rfl, rfl, Lib.hid ⟨HR.out.1, HR.out.2.1, HR.out.2.2, rfl⟩⟩
    case round =>
      obtain ⟨N, R, rfl, rfl, HN⟩ := hrel
      obtain ⟨q1, q2, q3, q4⟩ := HN.out
      obtain ⟨y1, y4, vY, hyf, hzy⟩ := HY.out
      have hge : (FloatKind.f64.format.order R Y == some .gt || FloatKind.f64.format.order R Y == some .eq) = decide (U ≤ N) := ord_ge R Y N U q1 y1 q2 y4 q3 vY
      by_cases hle : U ≤ N
      · rw [decide_eq_true hle] at hge
        have x1 := q3.exp (show 0 < N from Nat.lt_of_lt_of_le hU'.out hle)
        have x2 := vY.exp hU'.out
        have x3 := fexp_lt R
        have x4 := fexp_lt Y
        obtain ⟨e, he⟩ : ∃ e, e = if ffrac R < ffrac Y then fexp R - 1 else fexp R := ⟨_, rfl⟩
        obtain ⟨m1, m2, m3, T, m4, m5, m6, m7, m8, m9⟩ := mod_round R Y N U e q1 y1 q2 y4 q3 vY hU'.out hle he
        obtain ⟨tb, htb⟩ : ∃ tb, tb = e * 4503599627370496 + ffrac Y := ⟨_, rfl⟩
        rw [← htb] at m4 m8 m9
        obtain ⟨D, d1, d2, d3, d4⟩ := sub_exact R tb N (U * T) q1 m8 q2 m9 q3 m4 m6 m7
        have hsub : ∀ W : World, (binOp .sub 31 (.float .f64 R) (.float .f64 tb)).run Tryz.prog W = .ok (.float .f64 D) W := fun W => run_float_arith W .sub 31 .f64 _ _ _ d1
        have HFR := Lib.hid (Frexp_any R q1 q2 (by omega) w6)
        have hlt := frac_lt (ffrac R) (ffrac Y) (ffrac_lt R) (ffrac_lt Y)
        rw [← hyf] at hlt
        obtain ⟨rf, hrf⟩ : ∃ rf, rf = 1022 * 4503599627370496 + ffrac R := ⟨_, rfl⟩
        obtain ⟨zr, hzr⟩ : ∃ zr : Int, zr = (fexp R : Int) - 1023 + 1 := ⟨_, rfl⟩
        rw [← hrf, ← hzr] at HFR
        rw [← hrf] at hlt
        have hlt2 : (FloatKind.f64.format.order rf yf == some .lt) = decide (ffrac R < ffrac Y) := hlt
        have z1 : -4096 ≤ zr := by omega
        have z2 : zr ≤ 4096 := by omega
        have HND := Lib.hid (show D < 9223372036854775808 ∧ fexp D ≠ 2047 ∧ IsV D (N - U * T) ∧ (N - U * T) % U = V % U from ⟨d2, d3, d4, mod_step N U T V q4 m6⟩)
        have hmea : flN (.float .f64 D) < flN (.float .f64 R) := by
          show fwhole D < fwhole R
          rw [d4.whole, q3.whole]
          have h9 : 0 < U * T := Nat.mul_pos hU'.out m5
          omega
        have HME := Lib.hid hmea
        by_cases hc : ffrac R < ffrac Y
        · rw [decide_eq_true hc] at hlt2
          rw [if_pos hc] at he
          have HLD := Lib.hid (Ldexp_any Y e (zr - 1 - zy) y1 y4 (by omega) (by omega) m1 m2 w6)
          rw [← htb] at HLD
          clear HN q1 q2 q3 q4 y1 y4 vY hyf hzy hle x1 x2 x3 x4 he m1 m2 m3 m4 m5 m6 m7 m8 m9 htb d1 d2 d3 d4 hlt hrf hzr hc hmea
          go_wp2_with fail
          refine HFR.out.mono ?_
          rintro e w7 ⟨rfl, rfl⟩
          go_wp2_with fail
          refine HLD.out.mono ?_
          rintro e w8 ⟨rfl, rfl⟩
          go_wp2
          go_roundw
          case rel => exact ⟨_, D, rfl, by first | rfl | trivial, HND⟩
          case measure => exact HME.out
        · rw [decide_eq_false hc] at hlt2
          rw [if_neg hc] at he
          have HLD := Lib.hid (Ldexp_any Y e (zr - zy) y1 y4 (by omega) (by omega) m1 m2 w6)
          rw [← htb] at HLD
          clear HN q1 q2 q3 q4 y1 y4 vY hyf hzy hle x1 x2 x3 x4 he m1 m2 m3 m4 m5 m6 m7 m8 m9 htb d1 d2 d3 d4 hlt hrf hzr hc hmea
          go_wp2_with fail
          refine HFR.out.mono ?_
          rintro e w7 ⟨rfl, rfl⟩
          go_wp2_with fail
          refine HLD.out.mono ?_
          rintro e w8 ⟨rfl, rfl⟩
          go_wp2
          go_roundw
          case rel => exact ⟨_, D, rfl, by first | rfl | trivial, HND⟩
          case measure => exact HME.out
      · rw [decide_eq_false hle] at hge
        have hRR : R = rs := by
          have h1 := q3.bits q1 q2
          have h2 : N % U = N := Nat.mod_eq_of_lt (by omega)
          rw [HRS.out, ← q4, h2]
          exact h1
        subst hRR
        clear HN q1 q2 q3 q4 y1 y4 vY hyf hzy hle
        go_wp2
        go_ret
        exact ⟨rfl, rfl⟩
  · rw [if_pos rfl]
    rw [if_pos rfl] at hR0
    have hu0 : ∀ W : World, (Go.Op.unary .neg (.float .f64 F)).run Tryz.prog W = .ok (.float .f64 R0) W := fun W => by rw [hR0]; exact hu F W
    have hu1 : ∀ W : World, (Go.Op.unary .neg (.float .f64 rs)).run Tryz.prog W = .ok (.float .f64 (Go.Op.negFloat .f64 rs)) W := fun W => hu rs W
    clear hu hR0
    go_enter Tryz.func37, Tryz.ntmps37
    go_wp2_with fail
    refine HI.out.mono ?_
    rintro e w2 ⟨rfl, rfl⟩
    go_wp2_with fail
    refine HNF.out.mono ?_
    rintro e w3 ⟨rfl, rfl⟩
    go_wp2_with fail
    refine HNG.out.mono ?_
    rintro e w4 ⟨rfl, rfl⟩
    go_wp2_with fail
    refine HAB.out.mono ?_
    rintro e w5 ⟨rfl, rfl⟩
    go_wp2_with fail
    refine HFY.out.mono ?_
    rintro e w6 ⟨rfl, rfl⟩
    go_wp2_with fail
    clear HI HNF HNG HAB HFY g0
    go_loopw [7] (fun r wr => ∃ N R : Nat, r = .float .f64 R ∧ w6 = wr ∧ Hid (R < 9223372036854775808 ∧ fexp R ≠ 2047 ∧ IsV R N ∧ N % U = V % U)) (fun r _ => flN r)
    case atStart => exact ⟨V, R0, rfl, rfl, Lib.hid ⟨HR.out.1, HR.out.2.1, HR.out.2.2, rfl⟩⟩
    case round =>
      obtain ⟨N, R, rfl, rfl, HN⟩ := hrel
      obtain ⟨q1, q2, q3, q4⟩ := HN.out
      obtain ⟨y1, y4, vY, hyf, hzy⟩ := HY.out
      have hge : (FloatKind.f64.format.order R Y == some .gt || FloatKind.f64.format.order R Y == some .eq) = decide (U ≤ N) := ord_ge R Y N U q1 y1 q2 y4 q3 vY
      by_cases hle : U ≤ N
      · rw [decide_eq_true hle] at hge
        have x1 := q3.exp (show 0 < N from Nat.lt_of_lt_of_le hU'.out hle)
        have x2 := vY.exp hU'.out
        have x3 := fexp_lt R
        have x4 := fexp_lt Y
        obtain ⟨e, he⟩ : ∃ e, e = if ffrac R < ffrac Y then fexp R - 1 else fexp R := ⟨_, rfl⟩
        obtain ⟨m1, m2, m3, T, m4, m5, m6, m7, m8, m9⟩ := mod_round R Y N U e q1 y1 q2 y4 q3 vY hU'.out hle he
        obtain ⟨tb, htb⟩ : ∃ tb, tb = e * 4503599627370496 + ffrac Y := ⟨_, rfl⟩
        rw [← htb] at m4 m8 m9
        obtain ⟨D, d1, d2, d3, d4⟩ := sub_exact R tb N (U * T) q1 m8 q2 m9 q3 m4 m6 m7
        have hsub : ∀ W : World, (binOp .sub 31 (.float .f64 R) (.float .f64 tb)).run Tryz.prog W = .ok (.float .f64 D) W := fun W => run_float_arith W .sub 31 .f64 _ _ _ d1
        have HFR := Lib.hid (Frexp_any R q1 q2 (by omega) w6)
        have hlt := frac_lt (ffrac R) (ffrac Y) (ffrac_lt R) (ffrac_lt Y)
        rw [← hyf] at hlt
        obtain ⟨rf, hrf⟩ : ∃ rf, rf = 1022 * 4503599627370496 + ffrac R := ⟨_, rfl⟩
        obtain ⟨zr, hzr⟩ : ∃ zr : Int, zr = (fexp R : Int) - 1023 + 1 := ⟨_, rfl⟩
        rw [← hrf, ← hzr] at HFR
        rw [← hrf] at hlt
        have hlt2 : (FloatKind.f64.format.order rf yf == some .lt) = decide (ffrac R < ffrac Y) := hlt
        have z1 : -4096 ≤ zr := by omega
        have z2 : zr ≤ 4096 := by omega
        have HND := Lib.hid (show D < 9223372036854775808 ∧ fexp D ≠ 2047 ∧ IsV D (N - U * T) ∧ (N - U * T) % U = V % U from ⟨d2, d3, d4, mod_step N U T V q4 m6⟩)
        have hmea : flN (.float .f64 D) < flN (.float .f64 R) := by
          show fwhole D < fwhole R
          rw [d4.whole, q3.whole]
          have h9 : 0 < U * T := Nat.mul_pos hU'.out m5
          omega
        have HME := Lib.hid hmea
        by_cases hc : ffrac R < ffrac Y
        · rw [decide_eq_true hc] at hlt2
          rw [if_pos hc] at he
          have HLD := Lib.hid (Ldexp_any Y e (zr - 1 - zy) y1 y4 (by omega) (by omega) m1 m2 w6)
          rw [← htb] at HLD
          clear HN q1 q2 q3 q4 y1 y4 vY hyf hzy hle x1 x2 x3 x4 he m1 m2 m3 m4 m5 m6 m7 m8 m9 htb d1 d2 d3 d4 hlt hrf hzr hc hmea
          go_wp2_with fail
          refine HFR.out.mono ?_
          rintro e w7 ⟨rfl, rfl⟩
          go_wp2_with fail
          refine HLD.out.mono ?_
          rintro e w8 ⟨rfl, rfl⟩
          go_wp2
          go_roundw
          case rel => exact ⟨_, D, rfl, by first | rfl | trivial, HND⟩
          case measure => exact HME.out
        · rw [decide_eq_false hc] at hlt2
          rw [if_neg hc] at he
          have HLD := Lib.hid (Ldexp_any Y e (zr - zy) y1 y4 (by omega) (by omega) m1 m2 w6)
          rw [← htb] at HLD
          clear HN q1 q2 q3 q4 y1 y4 vY hyf hzy hle x1 x2 x3 x4 he m1 m2 m3 m4 m5 m6 m7 m8 m9 htb d1 d2 d3 d4 hlt hrf hzr hc hmea
          go_wp2_with fail
          refine HFR.out.mono ?_
          rintro e w7 ⟨rfl, rfl⟩
          go_wp2_with fail
          refine HLD.out.mono ?_
          rintro e w8 ⟨rfl, rfl⟩
          go_wp2
          go_roundw
          case rel => exact ⟨_, D, rfl, by first | rfl | trivial, HND⟩
          case measure => exact HME.out
      · rw [decide_eq_false hle] at hge
        have hRR : R = rs := by
          have h1 := q3.bits q1 q2
          have h2 : N % U = N := Nat.mod_eq_of_lt (by omega)
          rw [HRS.out, ← q4, h2]
          exact h1
        subst hRR
        clear HN q1 q2 q3 q4 y1 y4 vY hyf hzy hle
        go_wp2
        go_ret
        exact ⟨rfl, rfl⟩
end Go.Proofs.YtgohhebffcldeaaGreatDoor

set_option linter.unusedVariables false
set_option linter.unusedSimpArgs false
namespace Go.Proofs.YtgohhebffcldeaaGreatDoor
open Go.RowKit
open Num

theorem valRow2 (neg : Bool) (s : Value) (w W : World) (hb : Below (w.heap.size + 1) (w.alloc (.cells #[.int .i64 2, .bool neg, s, .int .u64 0, .string ⟨#[]⟩, .slice none 0 0] 26)) W) : W.cell? ⟨w.heap.size, 0, none⟩ = some (.int .i64 2) ∧ W.cell? ⟨w.heap.size, 1, none⟩ = some (.bool neg) ∧ W.cell? ⟨w.heap.size, 2, none⟩ = some s ∧ W.cell? ⟨w.heap.size, 3, none⟩ = some (.int .u64 0) ∧ W.cell? ⟨w.heap.size, 4, none⟩ = some (.string ⟨#[]⟩) ∧ W.cell? ⟨w.heap.size, 5, none⟩ = some (.slice none 0 0) := by
  have h := (hb.block w.heap.size (by omega)).trans (heap_alloc_new w _)
  exact ⟨(cell_of_row W _ 0 _ _ (0, 0) h).trans rfl, (cell_of_row W _ 1 _ _ (0, 0) h).trans rfl, (cell_of_row W _ 2 _ _ (0, 0) h).trans rfl, (cell_of_row W _ 3 _ _ (0, 0) h).trans rfl, (cell_of_row W _ 4 _ _ (0, 0) h).trans rfl, (cell_of_row W _ 5 _ _ (0, 0) h).trans rfl⟩

theorem MathArg_int (neg : Bool) (s : Value) (n V : Nat) (w : World) (hm : MagAt w s n V) (hn : n ≤ 1024) (hneg : neg = true → 0 < V) :
    Calls Tryz.prog 7 #[valInt neg s] w fun e w' => ∃ F is, e = .returned (.tuple #[.float .f64 F, .bool is]) ∧ F < 18446744073709551616 ∧ (V = 0 → F = 0) ∧ (is = true → fexp F ≠ 2047 ∧ fcAll (sI neg V) F = 0) ∧ Below w.heap.size w w' := by
  obtain ⟨a, c, rfl⟩ := hm.shape
  obtain ⟨w1, hw1⟩ : ∃ w1, w1 = w.alloc (.cells #[.int .i64 2, .bool neg, .slice a n c, .int .u64 0, .string ⟨#[]⟩, .slice none 0 0] 26) := ⟨_, rfl⟩
  have hb1 : Below w.heap.size w w1 := by rw [hw1]; exact (Below.refl _ _).alloc (Nat.le_refl _) _
  have hsz : w1.heap.size = w.heap.size + 1 := by rw [hw1]; simp
  have HV := Lib.hid (fun (W : World) (hb : Below w1.heap.size w1 W) => valRow2 neg (.slice a n c) w W (by rw [hsz, hw1] at hb; exact hb))
  have HNUM := Lib.hid (fun (W : World) (hb : Below w1.heap.size w1 W) => Num_int neg (.slice a n c) n V W ((hm.below hb1).below hb) (by omega) hneg)
  have HB1 := Lib.hid hb1; have HW1 := Lib.hid hw1; have HNG := Lib.hid hneg
  clear hm hb1 hw1 hsz hneg
  obtain ⟨x0, x1, x2, x3, x4, x5⟩ := HV.out w1 (Below.refl _ _)
  go_enter Tryz.func7, Tryz.ntmps7
  go_wp2_with fail
  rw [← HW1.out]
  go_wp2_with fail
  refine (HNUM.out w1 (Below.refl _ _)).mono ?_
  rintro e w2 ⟨s2, m2, rfl, hm2, hn2, hb2⟩
  have HNE := Lib.hid (Nearest_any neg s2 m2 V w2 hn2 (by omega) HNG.out)
  have HB2 := Lib.hid hb2
  clear hm2 hn2 hb2
  go_wp2_with fail
  refine HNE.out.mono ?_
  rintro e w3 ⟨F, rfl, hF, hF0, hb3⟩
  have HFI := Lib.hid (Finite_any F hF w3)
  have HB3 := Lib.hid (HB2.out.trans (hb3.mono HB2.out.size))
  have HF := Lib.hid (And.intro hF hF0)
  clear hb3 hF hF0
  go_wp2_with fail
  refine HFI.out.mono ?_
  rintro e w4 ⟨rfl, rfl⟩
  obtain ⟨y0, y1, y2, y3, y4, y5⟩ := HV.out w4 HB3.out
  by_cases hfe : fexp F ≠ 2047
  · rw [decide_eq_true hfe]
    have HN2 := Lib.hid (HNUM.out w4 HB3.out)
    have HFE := Lib.hid hfe
    clear hfe
    go_wp2_with fail
    refine HN2.out.mono ?_
    rintro e w5 ⟨s5, m5, rfl, hm5, hn5, hb5⟩
    have HCF := Lib.hid (CmpFloat_any neg s5 m5 V F w5 hn5 (by omega) HNG.out HF.out.1)
    have HB5 := Lib.hid (HB3.out.trans (hb5.mono HB3.out.size))
    clear hm5 hn5 hb5
    obtain ⟨fc, hfc⟩ : ∃ fc, fc = fcAll (sI neg V) F := ⟨_, rfl⟩
    rw [← hfc] at HCF
    have HFC := Lib.hid hfc
    clear hfc
    go_wp2_with fail
    refine HCF.out.mono ?_
    rintro e w6 ⟨rfl, hb6⟩
    have HB6 := Lib.hid (HB5.out.trans (hb6.mono HB5.out.size))
    clear hb6
    go_wp2
    go_ret2
    exact ⟨F, fc == 0, rfl, HF.out.1, HF.out.2, fun h => ⟨HFE.out, by rw [← HFC.out]; simpa using h⟩, HB1.out.trans (HB6.out.mono HB1.out.size)⟩
  · rw [decide_eq_false hfe]
    go_wp2
    go_ret2
    exact ⟨F, false, rfl, HF.out.1, HF.out.2, (fun h => by cases h), HB1.out.trans (HB3.out.mono HB1.out.size)⟩

/-- the bits of math.Copysign -/
def copyBits (F G : Nat) : Nat := F % 9223372036854775808 ||| (G &&& 9223372036854775808)
theorem copyBits_lt (F G : Nat) (hG : G < 18446744073709551616) : copyBits F G < 18446744073709551616 :=
  Nat.or_lt_two_pow (n := 64) (by have := Nat.mod_lt F (show 0 < 9223372036854775808 by decide); omega) (Nat.and_lt_two_pow (n := 64) G (by decide))
theorem Copysign_any (F G : Nat) (hF : F < 18446744073709551616) (hG : G < 18446744073709551616) (w : World) :
    Calls Tryz.prog 11 #[.float .f64 F, .float .f64 G] w fun e w' => e = .returned (.float .f64 (copyBits F G)) ∧ w' = w := by
  have h1 := run_tobits F
  have h1' := run_tobits G
  have e1 := andNot_sign F hF
  have e2 : bits .and .u64 (G : Int) 9223372036854775808 = ((G &&& 9223372036854775808 : Nat) : Int) := bits_and_u64_nat G 9223372036854775808 hG (by decide)
  have e3 := bits_or_u64_nat (F % 9223372036854775808) (G &&& 9223372036854775808) (by omega) (Nat.and_lt_two_pow (n := 64) G (by decide))
  obtain ⟨x, hx⟩ : ∃ x, x = F % 9223372036854775808 := ⟨_, rfl⟩
  obtain ⟨y, hy⟩ : ∃ y, y = G &&& 9223372036854775808 := ⟨_, rfl⟩
  obtain ⟨R, hR⟩ : ∃ R, R = copyBits F G := ⟨_, rfl⟩
  rw [← hx] at e1 e3
  rw [← hy] at e2 e3
  have e4 : ((x ||| y : Nat) : Int) = (R : Int) := by rw [hR, hx, hy]; rfl
  rw [e4] at e3
  rw [← hR]
  have h2 : ∀ W : World, (callFunc 35 #[.int .u64 (R : Int)]).run Tryz.prog W = .ok (.value (.float .f64 R)) W := run_frombits (R : Int)
  clear hx hy hR e4
  go_enter Tryz.func11, Tryz.ntmps11
  go_wp2
  go_ret
  exact ⟨rfl, rfl⟩

theorem NaN_any (w : World) : Calls Tryz.prog 73 #[] w fun e w' => e = .returned (.float .f64 9221120237041090561) ∧ w' = w := by
  obtain ⟨B, hB⟩ : ∃ B : Nat, B = 9221120237041090561 := ⟨_, rfl⟩
  have hfb : ∀ W : World, (callFunc 35 #[.int .u64 9221120237041090561]).run Tryz.prog W = .ok (.value (.float .f64 B)) W := fun W => by
    have h := run_frombits 9221120237041090561 W
    rw [hB]
    exact h
  rw [← hB]
  clear hB
  go_enter Tryz.func73, Tryz.ntmps73
  go_wp2
  go_ret
  exact ⟨rfl, rfl⟩
/-- math.Mod of two floats that are integers: there is an answer, the same wherever it is asked -/
theorem Mod_any (F G V U : Nat) (hF : F < 18446744073709551616) (hG : G < 18446744073709551616) (hf : fexp F ≠ 2047) (hg : fexp G ≠ 2047) (vF : IsV F V) (vG : IsV G U) (hG0 : U = 0 → G = 0) (hs : fneg F = true → 0 < V) :
    ∃ R, R < 18446744073709551616 ∧ ∀ w : World, Calls Tryz.prog 12 #[.float .f64 F, .float .f64 G] w fun e w' => e = .returned (.float .f64 R) ∧ w' = w := by
  suffices h : ∃ R, R < 18446744073709551616 ∧ ∀ w : World, Calls Tryz.prog 37 #[.float .f64 F, .float .f64 G] w fun e w' => e = .returned (.float .f64 R) ∧ w' = w by
    obtain ⟨R, hR, h⟩ := h
    refine ⟨R, hR, fun w => ?_⟩
    have H := Lib.hid (h w)
    clear h hf hg vF vG hG0 hs
    go_enter Tryz.func12, Tryz.ntmps12
    go_wp2_with fail
    refine H.out.mono ?_
    rintro e w2 ⟨rfl, rfl⟩
    go_wp2
    go_ret
    exact ⟨rfl, rfl⟩
  rcases Nat.eq_zero_or_pos U with h0 | h0
  · have hG1 := hG0 h0
    subst hG1
    refine ⟨9221120237041090561, by decide, fun w => ?_⟩
    have g0 : (FloatKind.f64.format.order 0 0 == some .eq) = true := by decide
    obtain ⟨R, hR⟩ : ∃ R : Nat, R = 9221120237041090561 := ⟨_, rfl⟩
    have H := Lib.hid (NaN_any w)
    rw [← hR] at H ⊢
    clear hf hg vF vG hG0 hs hR h0
    go_enter Tryz.func37, Tryz.ntmps37
    go_wp2_with fail
    refine H.out.mono ?_
    rintro e w2 ⟨rfl, rfl⟩
    go_wp2
    go_ret
    exact ⟨rfl, rfl⟩
  · refine ⟨modBits F V U, ?_, fun w => mod_any F G V U hF hG hf hg vF vG h0 hs w⟩
    unfold modBits
    split
    · exact (flip_facts _ (nearest_num _ _ _).1).1
    · exact (nearest_num _ _ _).1

theorem isFloat_same (B : Nat) (hB : B < 18446744073709551616) (w : World) :
    Calls Tryz.prog 10 #[valFloat B, .bool true, .float .f64 B] w fun e w' => e = .returned (.bool true) ∧ Below w.heap.size w w' := by
  obtain ⟨w1, hw1⟩ : ∃ w1, w1 = w.alloc (.cells #[.int .i64 3, .bool false, .slice none 0 0, .int .u64 B, .string ⟨#[]⟩, .slice none 0 0] 26) := ⟨_, rfl⟩
  have hb1 : Below w.heap.size w w1 := by rw [hw1]; exact (Below.refl _ _).alloc (Nat.le_refl _) _
  have r0 : w1.heap[w.heap.size]? = some (.cells #[.int .i64 3, .bool false, .slice none 0 0, .int .u64 B, .string ⟨#[]⟩, .slice none 0 0] 26 (0, 0)) := by rw [hw1]; exact heap_alloc_new _ _
  have HN := Lib.hid (IsNaN_any B hB w1)
  have h1 := run_tobits B
  have x0 := (cell_of_row w1 _ 0 _ _ (0, 0) r0).trans rfl
  have x3 := (cell_of_row w1 _ 3 _ _ (0, 0) r0).trans rfl
  have HB1 := Lib.hid hb1; have HW1 := Lib.hid hw1
  clear hb1 hw1 r0
  obtain ⟨nb, hnb⟩ : ∃ nb, nb = decide (fexp B = 2047 ∧ ffrac B ≠ 0) := ⟨_, rfl⟩
  rw [← hnb] at HN
  clear hnb
  cases nb
  all_goals (
    go_enter Tryz.func10, Tryz.ntmps10
    go_wp2_with fail
    rw [← HW1.out]
    refine HN.out.mono ?_
    rintro e w2 ⟨rfl, rfl⟩
    go_wp2_with fail
    first
    | (go_ret
       exact ⟨rfl, HB1.out⟩)
    | (go_quiet (fail)
       go_wp2
       go_ret
       exact ⟨rfl, by first | exact below_drewN HB1.out | exact HB1.out.drew⟩))
end Go.Proofs.YtgohhebffcldeaaGreatDoor
