/- Plain floats: what is exactly a float is rounded to it; the integers that are floats. No program in sight. Plain floats: one round of math.Mod's loop. No program in sight. Plain: doubling a float gives a float; a number that is a double, shifted until its highest word is full, is the double's significand. -/
import Derived.Test.YtgohhebffcldeaaGreatDoorCmpP
set_option linter.unusedVariables false
set_option linter.unusedSimpArgs false
namespace Go.Proofs.YtgohhebffcldeaaGreatDoor.Num
open Ieee

theorem log2_scale (m d : Nat) (hm : m ≠ 0) : (m * 2 ^ d).log2 = m.log2 + d := by
  have h1 := Nat.log2_self_le hm
  have h2 : m < 2 ^ (m.log2 + 1) := Nat.lt_log2_self
  have hp : 0 < 2 ^ d := Nat.two_pow_pos d
  refine (Nat.log2_eq_iff (Nat.mul_ne_zero hm (by omega))).2 ⟨?_, ?_⟩
  · rw [Nat.pow_add]; exact Nat.mul_le_mul_right _ h1
  · rw [show m.log2 + d + 1 = (m.log2 + 1) + d by omega, Nat.pow_add]
    exact Nat.mul_lt_mul_of_pos_right h2 hp

theorem cut_even_0 (neg : Bool) (n : Nat) : Toward.even.cut neg n 0 = n := by
  unfold Toward.cut
  simp
  omega
theorem cut_even_mul (neg : Bool) (m d : Nat) (hm : m ≠ 0) : Toward.even.cut neg (m * 2 ^ d) d = m := by
  have hp : 0 < 2 ^ d := Nat.two_pow_pos d
  have hl := log2_scale m d hm
  unfold Toward.cut
  rw [Nat.min_eq_left (by omega), Nat.one_shiftLeft]
  dsimp only
  rw [Nat.mul_div_cancel _ hp, Nat.mul_mod_left]
  simp

/-- the rung of a finite double -/
theorem rung_double (B : Nat) (hB : B < 18446744073709551616) (hf : fexp B ≠ 2047) : (fplace B + 1074).toNat * 4503599627370496 + fman B = B % 9223372036854775808 ∧ (fplace B + 1074).toNat * 4503599627370496 + fman B < 9218868437227405312 := by
  have h1 := fexp_lt B
  have h2 := ffrac_lt B
  have h3 : B % 9223372036854775808 = fexp B * 4503599627370496 + ffrac B := by unfold fexp ffrac; omega
  unfold fplace fman
  by_cases h0 : fexp B = 0
  · rw [if_pos h0, if_pos h0, h3, h0]
    simp
    omega
  · rw [if_neg h0, if_neg h0, h3]
    have : ((fexp B : Int) - 1075 + 1074).toNat = fexp B - 1 := by omega
    rw [this]
    omega
theorem word_double (B : Nat) (hB : B < 18446744073709551616) : double.word (fneg B) (B % 9223372036854775808) = B := by
  have hsw : double.signWeight = 9223372036854775808 := by decide
  unfold Format.word
  rw [hsw]
  unfold fneg
  by_cases h : B / 9223372036854775808 = 1
  · simp [h]; omega
  · have : B / 9223372036854775808 = 0 := by omega
    simp [this]; omega
theorem last_double (B : Nat) (hf : fexp B ≠ 2047) (hM : 0 < fman B) : max (fplace B + ((fman B).log2 : Int) - 52) (-1074) = fplace B := by
  have hlt := fman_lt B
  unfold fplace
  by_cases h0 : fexp B = 0
  · rw [if_pos h0]
    have hm : fman B = ffrac B := by unfold fman; rw [if_pos h0]
    have h1 : fman B < 2 ^ 52 := by rw [hm]; exact ffrac_lt B
    have h2 : (fman B).log2 < 52 := (Nat.log2_lt (by omega)).2 h1
    omega
  · rw [if_neg h0]
    have hm : fman B = ffrac B + 4503599627370496 := by unfold fman; rw [if_neg h0]
    have h2 : (fman B).log2 = 52 := (Nat.log2_eq_iff (by omega)).2 ⟨by rw [hm]; omega, by omega⟩
    rw [h2]
    omega

/-- what is exactly a double is rounded to it -/
theorem nearest_exact (B : Nat) (hB : B < 18446744073709551616) (hf : fexp B ≠ 2047) (hM : 0 < fman B) (mag : Nat) (place : Int)
    (h : (∃ d : Nat, place = fplace B + d ∧ fman B = mag * 2 ^ d) ∨ (∃ d : Nat, fplace B = place + d ∧ mag = fman B * 2 ^ d)) :
    double.nearest (fneg B) mag place = B := by
  have hlp : double.leastPlace = -1074 := by decide
  have hfb : double.fractionBits = 52 := by decide
  have hbi : double.binade = 4503599627370496 := by decide
  have hir : double.infRung = 9218868437227405312 := by decide
  obtain ⟨hr1, hr2⟩ := rung_double B hB hf
  have hlast := last_double B hf hM
  have hm0 : mag ≠ 0 := by
    rcases h with ⟨d, _, h⟩ | ⟨d, _, h⟩
    · intro e; rw [e] at h; omega
    · rw [h]; exact Nat.mul_ne_zero (by omega) (Nat.pos_iff_ne_zero.1 (Nat.two_pow_pos d))
  have hL : place + (mag.log2 : Int) = fplace B + ((fman B).log2 : Int) := by
    rcases h with ⟨d, h1, h2⟩ | ⟨d, h1, h2⟩
    · rw [h2, log2_scale mag d hm0, h1]; omega
    · rw [h2, log2_scale _ d (by omega), h1]; omega
  unfold Format.nearest
  rw [if_neg hm0, hlp, hfb, hbi, hir]
  have e1 : (place + (mag.log2 : Int) - ((52 : Nat) : Int)) = fplace B + ((fman B).log2 : Int) - 52 := by omega
  rw [e1, hlast]
  have hk : Toward.even.cut (fneg B) (mag <<< (place - fplace B).toNat) (fplace B - place).toNat = fman B := by
    rw [Nat.shiftLeft_eq]
    rcases h with ⟨d, h1, h2⟩ | ⟨d, h1, h2⟩
    · rw [show (fplace B - place).toNat = 0 by omega, show (place - fplace B).toNat = d by omega, cut_even_0, h2]
    · rw [show (fplace B - place).toNat = d by omega, show (place - fplace B).toNat = 0 by omega, Nat.pow_zero, Nat.mul_one, h2, cut_even_mul _ _ _ (by omega)]
  dsimp only
  rw [hk, show fplace B - -1074 = fplace B + 1074 by omega, Nat.min_eq_left (by omega), hr1, word_double B hB]

/-- a finite double's magnitude is the integer N -/
def IsV (B N : Nat) : Prop := fman B * 2 ^ (fplace B).toNat = N * 2 ^ (-fplace B).toNat
theorem IsV.exact {B N : Nat} (h : IsV B N) (hB : B < 18446744073709551616) (hf : fexp B ≠ 2047) (hN : 0 < N) : double.nearest (fneg B) N 0 = B := by
  unfold IsV at h
  have hM : 0 < fman B := by
    rcases Nat.eq_zero_or_pos (fman B) with h0 | h0
    · rw [h0, Nat.zero_mul] at h
      have := Nat.mul_pos hN (Nat.two_pow_pos (-fplace B).toNat)
      omega
    · exact h0
  refine nearest_exact B hB hf hM N 0 ?_
  by_cases hp : 0 ≤ fplace B
  · rw [show (-fplace B).toNat = 0 by omega, Nat.pow_zero, Nat.mul_one] at h
    exact .inr ⟨(fplace B).toNat, by omega, h.symm⟩
  · rw [show (fplace B).toNat = 0 by omega, Nat.pow_zero, Nat.mul_one] at h
    exact .inl ⟨(-fplace B).toNat, by omega, h⟩
theorem IsV.zero {B : Nat} (h : IsV B 0) : fman B = 0 := by
  unfold IsV at h
  rw [Nat.zero_mul] at h
  rcases Nat.eq_zero_or_pos (fman B) with h0 | h0
  · exact h0
  · have := Nat.mul_pos h0 (Nat.two_pow_pos (fplace B).toNat); omega
/-- an integer and a float that are worth the same -/
theorem fcmp_zero (n : Bool) (V B : Nat) (hV : 0 < V) (h : fcmp (sI n V) B = 0) : fneg B = n ∧ IsV B V := by
  unfold fcmp at h
  rw [← sI_mul] at h
  have hx : sI n (V * 2 ^ (-fplace B).toNat) = sI (fneg B) (fman B * 2 ^ (fplace B).toNat) := by
    unfold icmp at h
    split at h
    · cases h
    · split at h
      · cases h
      · omega
  have hp := Nat.mul_pos hV (Nat.two_pow_pos (-fplace B).toNat)
  unfold IsV
  generalize V * 2 ^ (-fplace B).toNat = a at *
  generalize fman B * 2 ^ (fplace B).toNat = b at *
  unfold sI at hx
  cases n <;> cases hb : fneg B <;> rw [hb] at hx <;> simp at hx <;> first | (exact ⟨rfl, by omega⟩) | omega
theorem fcmp_zero0 (n : Bool) (B : Nat) (h : fcmp (sI n 0) B = 0) : fman B = 0 := by
  unfold fcmp at h
  rw [← sI_mul, Nat.zero_mul] at h
  rcases Nat.eq_zero_or_pos (fman B) with h0 | h0
  · exact h0
  · have hp := Nat.mul_pos h0 (Nat.two_pow_pos (fplace B).toNat)
    generalize fman B * 2 ^ (fplace B).toNat = b at *
    unfold icmp sI at h
    cases n <;> cases hb : fneg B <;> rw [hb] at h <;> simp at h <;> omega

/-- a double of given parts -/
theorem parts_double (e f : Nat) (he : e < 2047) (hf : f < 4503599627370496) : e * 4503599627370496 + f < 9223372036854775808 ∧ fexp (e * 4503599627370496 + f) = e ∧ ffrac (e * 4503599627370496 + f) = f ∧ fneg (e * 4503599627370496 + f) = false := by
  have h1 : e * 4503599627370496 + f < 9223372036854775808 := by omega
  refine ⟨h1, by unfold fexp; omega, by unfold ffrac; omega, ?_⟩
  unfold fneg
  rw [Nat.div_eq_of_lt h1]
  rfl
theorem exists_double (mag : Nat) (p : Int) (h0 : 0 < mag) (h1 : mag < 9007199254740992) (hp : -1074 ≤ p ∧ p ≤ 971) :
    ∃ B, B < 9223372036854775808 ∧ fexp B ≠ 2047 ∧ fneg B = false ∧ 0 < fman B ∧ fman B * 2 ^ (fplace B + 1074).toNat = mag * 2 ^ (p + 1074).toNat := by
  have hL : mag.log2 < 53 := (Nat.log2_lt (by omega)).2 h1
  have hl1 := Nat.log2_self_le (n := mag) (by omega)
  have hl2 : mag < 2 ^ (mag.log2 + 1) := Nat.lt_log2_self
  obtain ⟨L, hLL⟩ : ∃ L, L = mag.log2 := ⟨_, rfl⟩
  rw [← hLL] at hL hl1 hl2
  clear hLL
  by_cases hn : 52 - L ≤ (p + 1074).toNat
  · obtain ⟨s, hs⟩ : ∃ s, s = 52 - L := ⟨_, rfl⟩
    have hlo : 4503599627370496 ≤ mag * 2 ^ s := by
      have : 2 ^ L * 2 ^ s ≤ mag * 2 ^ s := Nat.mul_le_mul_right _ hl1
      rw [← Nat.pow_add, show L + s = 52 by omega] at this
      exact this
    have hhi : mag * 2 ^ s < 9007199254740992 := by
      have : mag * 2 ^ s < 2 ^ (L + 1) * 2 ^ s := Nat.mul_lt_mul_of_pos_right hl2 (Nat.two_pow_pos s)
      rw [← Nat.pow_add, show L + 1 + s = 53 by omega] at this
      exact this
    obtain ⟨M, hM⟩ : ∃ M, M = mag * 2 ^ s := ⟨_, rfl⟩
    rw [← hM] at hlo hhi
    obtain ⟨k, hk⟩ : ∃ k, (p + 1074).toNat = s + k := ⟨(p + 1074).toNat - s, by omega⟩
    have hk2 : k + 1 < 2047 := by omega
    have hk3 : k + 1 ≠ 2047 := by omega
    have hpl0 : ((k + 1 : Nat) : Int) - 1075 + 1074 = (k : Int) := by omega
    obtain ⟨f, hf⟩ : ∃ f, M = f + 4503599627370496 ∧ f < 4503599627370496 := ⟨M - 4503599627370496, by omega, by omega⟩
    obtain ⟨e1, e2, e3, e4⟩ := parts_double (k + 1) f hk2 hf.2
    generalize (k + 1) * 4503599627370496 + f = B at *
    have hm : fman B = M := by unfold fman; rw [e2, e3, if_neg (Nat.succ_ne_zero k)]; exact hf.1.symm
    have hpl : fplace B + 1074 = (k : Int) := by unfold fplace; rw [e2, if_neg (Nat.succ_ne_zero k)]; exact hpl0
    refine ⟨B, e1, by rw [e2]; exact hk3, e4, by rw [hm]; omega, ?_⟩
    rw [hm, hpl, hM, Int.toNat_natCast, hk, Nat.mul_assoc, ← Nat.pow_add]
  · obtain ⟨s, hs⟩ : ∃ s, s = (p + 1074).toNat := ⟨_, rfl⟩
    have hhi : mag * 2 ^ s < 4503599627370496 := by
      have h2 : mag * 2 ^ s < 2 ^ (L + 1) * 2 ^ s := Nat.mul_lt_mul_of_pos_right hl2 (Nat.two_pow_pos s)
      rw [← Nat.pow_add] at h2
      have h3 : 2 ^ (L + 1 + s) ≤ 2 ^ 52 := Nat.pow_le_pow_right (by omega) (by omega)
      have e52 : (2 : Nat) ^ 52 = 4503599627370496 := by decide
      omega
    have hpos : 0 < mag * 2 ^ s := Nat.mul_pos h0 (Nat.two_pow_pos s)
    rw [← hs]
    obtain ⟨M, hM⟩ : ∃ M, M = mag * 2 ^ s := ⟨_, rfl⟩
    rw [← hM] at hhi hpos ⊢
    obtain ⟨e1, e2, e3, e4⟩ := parts_double 0 M (by omega) hhi
    have hm : fman (0 * 4503599627370496 + M) = M := by unfold fman; rw [e2, e3]; rfl
    have hpl : fplace (0 * 4503599627370496 + M) = -1074 := by unfold fplace; rw [e2]; rfl
    exact ⟨_, e1, by rw [e2]; decide, e4, by rw [hm]; exact hpos, by rw [hm, hpl]; simp⟩

/-- scaled to the least place -/
theorem nearest_scaled (B : Nat) (hB : B < 18446744073709551616) (hf : fexp B ≠ 2047) (hM : 0 < fman B) (mag : Nat) (p : Int) (hp : -1074 ≤ p)
    (h : fman B * 2 ^ (fplace B + 1074).toNat = mag * 2 ^ (p + 1074).toNat) : double.nearest (fneg B) mag p = B := by
  have hg := fplace_ge B
  refine nearest_exact B hB hf hM mag p ?_
  by_cases hc : fplace B ≤ p
  · refine .inl ⟨(p - fplace B).toNat, by omega, ?_⟩
    rw [show (p + 1074).toNat = (p - fplace B).toNat + (fplace B + 1074).toNat by omega, Nat.pow_add, ← Nat.mul_assoc] at h
    exact Nat.eq_of_mul_eq_mul_right (Nat.two_pow_pos _) h
  · refine .inr ⟨(fplace B - p).toNat, by omega, ?_⟩
    rw [show (fplace B + 1074).toNat = (fplace B - p).toNat + (p + 1074).toNat by omega, Nat.pow_add, ← Nat.mul_assoc] at h
    exact (Nat.eq_of_mul_eq_mul_right (Nat.two_pow_pos _) h).symm
/-- the least place's weight, upside down; never to be reckoned -/
def pw (n : Nat) : Nat := 2 ^ n
theorem pw_pos (n : Nat) : 0 < pw n := Nat.two_pow_pos n
theorem pw_add (a b n : Nat) (h : b = a + n) : 2 ^ b = 2 ^ a * pw n := by rw [h, Nat.pow_add]; rfl
theorem pw_split (a b n : Nat) (h : a + b = n) : 2 ^ a * 2 ^ b = pw n := by rw [← Nat.pow_add, h]; rfl
def hiP : Nat := pw 1074
theorem hiP_pos : 0 < hiP := pw_pos 1074
theorem hiP_add (a b : Nat) (h : b = a + 1074) : 2 ^ b = 2 ^ a * hiP := pw_add a b 1074 h
theorem hiP_split (a b : Nat) (h : a + b = 1074) : 2 ^ a * 2 ^ b = hiP := pw_split a b 1074 h
theorem IsV.scale {B N : Nat} (h : IsV B N) : fman B * 2 ^ (fplace B + 1074).toNat = N * hiP := by
  have hg := fplace_ge B
  unfold IsV at h
  by_cases hp : 0 ≤ fplace B
  · rw [show (-fplace B).toNat = 0 by omega, Nat.pow_zero, Nat.mul_one] at h
    rw [hiP_add (fplace B).toNat _ (by omega), ← Nat.mul_assoc, h]
  · rw [show (fplace B).toNat = 0 by omega, Nat.pow_zero, Nat.mul_one] at h
    rw [h, Nat.mul_assoc, hiP_split _ _ (by omega)]
theorem IsV.of_scale {B N : Nat} (h : fman B * 2 ^ (fplace B + 1074).toNat = N * hiP) : IsV B N := by
  have hg := fplace_ge B
  unfold IsV
  by_cases hp : 0 ≤ fplace B
  · rw [hiP_add (fplace B).toNat _ (by omega), ← Nat.mul_assoc] at h
    rw [show (-fplace B).toNat = 0 by omega, Nat.pow_zero, Nat.mul_one]
    exact Nat.eq_of_mul_eq_mul_right hiP_pos h
  · rw [← hiP_split (-fplace B).toNat (fplace B + 1074).toNat (by omega), ← Nat.mul_assoc] at h
    rw [show (fplace B).toNat = 0 by omega, Nat.pow_zero, Nat.mul_one]
    exact Nat.eq_of_mul_eq_mul_right (Nat.two_pow_pos _) h

/-- two magnitudes at their common place -/
theorem common (A B M N : Nat) (hA : IsV A M) (hB : IsV B N) :
    fman A * 2 ^ (fplace A - min (fplace A) (fplace B)).toNat * 2 ^ (min (fplace A) (fplace B) + 1074).toNat = M * hiP ∧ fman B * 2 ^ (fplace B - min (fplace A) (fplace B)).toNat * 2 ^ (min (fplace A) (fplace B) + 1074).toNat = N * hiP := by
  have ha := hA.scale
  have hb := hB.scale
  have h1 := fplace_ge A
  have h2 := fplace_ge B
  rw [Nat.mul_assoc, ← Nat.pow_add, Nat.mul_assoc, ← Nat.pow_add]
  rw [show (fplace A - min (fplace A) (fplace B)).toNat + (min (fplace A) (fplace B) + 1074).toNat = (fplace A + 1074).toNat by omega, show (fplace B - min (fplace A) (fplace B)).toNat + (min (fplace A) (fplace B) + 1074).toNat = (fplace B + 1074).toNat by omega]
  exact ⟨ha, hb⟩
theorem ord_cmp (A B M N : Nat) (hA : A < 9223372036854775808) (hB : B < 9223372036854775808) (ha : fexp A ≠ 2047) (hb : fexp B ≠ 2047) (vA : IsV A M) (vB : IsV B N) :
    double.order A B = some (compare M N) := by
  have na : fneg A = false := by unfold fneg; rw [Nat.div_eq_of_lt hA]; rfl
  have nb : fneg B = false := by unfold fneg; rw [Nat.div_eq_of_lt hB]; rfl
  obtain ⟨h1, h2⟩ := common A B M N vA vB
  unfold Format.order
  rw [read_double A (by omega) ha, read_double B (by omega) hb, signed_cmp, na, nb, signed_false, signed_false]
  generalize fman A * 2 ^ (fplace A - min (fplace A) (fplace B)).toNat = a at *
  generalize fman B * 2 ^ (fplace B - min (fplace A) (fplace B)).toNat = b at *
  have hQ : 0 < 2 ^ (min (fplace A) (fplace B) + 1074).toNat := Nat.two_pow_pos _
  have hP := hiP_pos
  generalize 2 ^ (min (fplace A) (fplace B) + 1074).toNat = Q at *
  generalize hiP = P at *
  rcases Nat.lt_trichotomy M N with h | h | h
  · have h3 : M * P < N * P := Nat.mul_lt_mul_of_pos_right h hP
    rw [← h1, ← h2] at h3
    have h4 := Nat.lt_of_mul_lt_mul_right h3
    rw [Nat.compare_eq_lt.2 h, Int.compare_eq_lt.2 (by omega)]
  · rw [h] at h1 ⊢
    have h4 : a = b := Nat.eq_of_mul_eq_mul_right hQ (h1.trans h2.symm)
    rw [h4, Nat.compare_eq_eq.2 rfl, Int.compare_eq_eq.2 rfl]
  · have h3 : N * P < M * P := Nat.mul_lt_mul_of_pos_right h hP
    rw [← h1, ← h2] at h3
    have h4 := Nat.lt_of_mul_lt_mul_right h3
    rw [Nat.compare_eq_gt.2 h, Int.compare_eq_gt.2 (by omega)]
theorem ord_lt (A B M N : Nat) (hA : A < 9223372036854775808) (hB : B < 9223372036854775808) (ha : fexp A ≠ 2047) (hb : fexp B ≠ 2047) (vA : IsV A M) (vB : IsV B N) :
    (double.order A B == some .lt) = decide (M < N) := by
  rw [ord_cmp A B M N hA hB ha hb vA vB]
  rcases Nat.lt_trichotomy M N with h | h | h
  · rw [Nat.compare_eq_lt.2 h, decide_eq_true h]; rfl
  · rw [Nat.compare_eq_eq.2 h, decide_eq_false (by omega)]; rfl
  · rw [Nat.compare_eq_gt.2 h, decide_eq_false (by omega)]; rfl
theorem ord_le (A B M N : Nat) (hA : A < 9223372036854775808) (hB : B < 9223372036854775808) (ha : fexp A ≠ 2047) (hb : fexp B ≠ 2047) (vA : IsV A M) (vB : IsV B N) :
    (double.order A B == some .lt || double.order A B == some .eq) = decide (M ≤ N) := by
  rw [ord_cmp A B M N hA hB ha hb vA vB]
  rcases Nat.lt_trichotomy M N with h | h | h
  · rw [Nat.compare_eq_lt.2 h, decide_eq_true (by omega)]; rfl
  · rw [Nat.compare_eq_eq.2 h, decide_eq_true (by omega)]; rfl
  · rw [Nat.compare_eq_gt.2 h, decide_eq_false (by omega)]; rfl

/-- a difference that is exact: r and t, t at most r and r at most twice t -/
theorem sub_exact (R T M N : Nat) (hR : R < 9223372036854775808) (hT : T < 9223372036854775808) (hr : fexp R ≠ 2047) (ht : fexp T ≠ 2047) (vR : IsV R M) (vT : IsV T N) (h1 : N ≤ M) (h2 : M ≤ 2 * N) :
    ∃ D, double.sub R T = some D ∧ D < 9223372036854775808 ∧ fexp D ≠ 2047 ∧ IsV D (M - N) := by
  have na : fneg R = false := by unfold fneg; rw [Nat.div_eq_of_lt hR]; rfl
  have nb : fneg T = false := by unfold fneg; rw [Nat.div_eq_of_lt hT]; rfl
  obtain ⟨c1, c2⟩ := common R T M N vR vT
  have hgr := fplace_ge R
  have hgt := fplace_ge T
  have hmr := fman_lt R
  have hmt := fman_lt T
  have her := fexp_lt R
  have het := fexp_lt T
  have hpr : fplace R ≤ 971 := by unfold fplace; split <;> omega
  obtain ⟨a, ha⟩ : ∃ a, a = fman R * 2 ^ (fplace R - min (fplace R) (fplace T)).toNat := ⟨_, rfl⟩
  obtain ⟨b, hb⟩ : ∃ b, b = fman T * 2 ^ (fplace T - min (fplace R) (fplace T)).toNat := ⟨_, rfl⟩
  obtain ⟨u, hu⟩ : ∃ u, u = min (fplace R) (fplace T) := ⟨_, rfl⟩
  have hsub : double.sub R T = some (double.write (.number (if ((a : Int) + -(b : Int)) = 0 then false && true else decide (((a : Int) + -(b : Int)) < 0)) ((a : Int) + -(b : Int)).natAbs u)) := by
    unfold Format.sub
    rw [read_double R (by omega) hr, read_double T (by omega) ht, na, nb]
    show some (double.write (.number (if (signed false (fman R) (fplace R - min (fplace R) (fplace T)).toNat + signed true (fman T) (fplace T - min (fplace R) (fplace T)).toNat) = 0 then false && true else decide ((signed false (fman R) (fplace R - min (fplace R) (fplace T)).toNat + signed true (fman T) (fplace T - min (fplace R) (fplace T)).toNat) < 0)) (signed false (fman R) (fplace R - min (fplace R) (fplace T)).toNat + signed true (fman T) (fplace T - min (fplace R) (fplace T)).toNat).natAbs (min (fplace R) (fplace T)))) = _
    rw [signed_false, signed_true, ← ha, ← hb, ← hu]
  rw [← ha, ← hu] at c1
  rw [← hb, ← hu] at c2
  have hQ : 0 < 2 ^ (u + 1074).toNat := Nat.two_pow_pos _
  have hP := hiP_pos
  have hab : b ≤ a := by
    have h3 : N * hiP ≤ M * hiP := Nat.mul_le_mul_right _ h1
    rw [← c1, ← c2] at h3
    exact Nat.le_of_mul_le_mul_right h3 hQ
  have hab2 : a ≤ 2 * b := by
    have h3 : M * hiP ≤ 2 * N * hiP := Nat.mul_le_mul_right _ h2
    rw [Nat.mul_assoc, ← c1, ← c2, ← Nat.mul_assoc] at h3
    exact Nat.le_of_mul_le_mul_right h3 hQ
  have hlt : a - b < 9007199254740992 := by
    by_cases hc : fplace R ≤ fplace T
    · rw [Int.min_eq_left hc, Int.sub_self, Int.toNat_zero, Nat.pow_zero, Nat.mul_one] at ha
      omega
    · rw [Int.min_eq_right (by omega), Int.sub_self, Int.toNat_zero, Nat.pow_zero, Nat.mul_one] at hb
      omega
  have hnn : ¬ ((a : Int) + -(b : Int) < 0) := by omega
  have habs : ((a : Int) + -(b : Int)).natAbs = a - b := by omega
  have hval : (a - b) * 2 ^ (u + 1074).toNat = (M - N) * hiP := by rw [Nat.sub_mul, Nat.sub_mul, c1, c2]
  have hw : double.sub R T = some (double.nearest false (a - b) u) := by
    rw [hsub, habs, decide_eq_false hnn]
    show some (double.nearest _ _ _) = _
    simp
  clear hsub
  by_cases h0 : a - b = 0
  · have hz : double.nearest false (a - b) u = 0 := by rw [h0]; unfold Format.nearest; rw [if_pos rfl]; rfl
    rw [hz] at hw
    have hMN : M - N = 0 := by
      rw [h0, Nat.zero_mul] at hval
      rcases Nat.eq_zero_or_pos (M - N) with h | h
      · exact h
      · have := Nat.mul_pos h hP; omega
    refine ⟨0, hw, by decide, by decide, ?_⟩
    rw [hMN]
    unfold IsV
    rw [show fman 0 = 0 by decide, Nat.zero_mul, Nat.zero_mul]
  · have hub : -1074 ≤ u ∧ u ≤ 971 := by omega
    obtain ⟨D, d1, d2, d3, d4, d5⟩ := exists_double (a - b) u (by omega) hlt hub
    have hn := nearest_scaled D (by omega) d2 d4 (a - b) u hub.1 d5
    rw [d3] at hn
    rw [hn] at hw
    exact ⟨D, hw, d1, d2, IsV.of_scale (d5.trans hval)⟩
end Go.Proofs.YtgohhebffcldeaaGreatDoor.Num

set_option linter.unusedVariables false
set_option linter.unusedSimpArgs false
namespace Go.Proofs.YtgohhebffcldeaaGreatDoor.Num
open Ieee

theorem pw_le (a n : Nat) (h : a ≤ n) : 2 ^ a ≤ pw n := Nat.pow_le_pow_right (by decide) h
theorem pw_53 (n : Nat) : pw (53 + n) = 9007199254740992 * pw n := by
  unfold pw
  rw [Nat.pow_add, show (2 : Nat) ^ 53 = 9007199254740992 by decide]
theorem hiP_53 : hiP = 9007199254740992 * pw 1021 := (congrArg pw (show 1074 = 53 + 1021 by decide)).trans (pw_53 1021)

/-- a normal double, scaled -/
theorem norm_scale {B N : Nat} (h : IsV B N) (h1 : 1 ≤ fexp B) : (4503599627370496 + ffrac B) * 2 ^ (fexp B - 1) = N * hiP := by
  have hs := h.scale
  have hm : fman B = 4503599627370496 + ffrac B := by unfold fman; rw [if_neg (by omega)]; omega
  have hp : (fplace B + 1074).toNat = fexp B - 1 := by unfold fplace; rw [if_neg (by omega)]; omega
  rwa [hm, hp] at hs
theorem norm_of_scale {B N : Nat} (h1 : 1 ≤ fexp B) (h : (4503599627370496 + ffrac B) * 2 ^ (fexp B - 1) = N * hiP) : IsV B N := by
  refine IsV.of_scale ?_
  have hm : fman B = 4503599627370496 + ffrac B := by unfold fman; rw [if_neg (by omega)]; omega
  have hp : (fplace B + 1074).toNat = fexp B - 1 := by unfold fplace; rw [if_neg (by omega)]; omega
  rwa [hm, hp]
/-- an integer of at least 1 has an exponent of at least 0 -/
theorem IsV.exp {B N : Nat} (h : IsV B N) (hN : 0 < N) : 1023 ≤ fexp B := by
  rcases Nat.lt_or_ge (fexp B) 1023 with hlt | hge
  · exfalso
    have hs := h.scale
    have hm := fman_lt B
    have hp : (fplace B + 1074).toNat ≤ 1021 := by unfold fplace; split <;> omega
    have h1 : 2 ^ (fplace B + 1074).toNat ≤ pw 1021 := pw_le _ _ hp
    have h2 : fman B * 2 ^ (fplace B + 1074).toNat ≤ fman B * pw 1021 := Nat.mul_le_mul_left _ h1
    have h3 : fman B * pw 1021 < 9007199254740992 * pw 1021 := Nat.mul_lt_mul_of_pos_right hm (pw_pos 1021)
    have h4 := hiP_53
    have h5 : 1 * hiP ≤ N * hiP := Nat.mul_le_mul_right _ hN
    rw [Nat.one_mul] at h5
    generalize pw 1021 = q at *
    generalize fman B * 2 ^ (fplace B + 1074).toNat = a at *
    generalize fman B * q = b at *
    generalize N * hiP = c at *
    omega
  · exact hge

theorem sig_lt (a b x y : Nat) (ha : a < 4503599627370496) (h : x < y) : (4503599627370496 + a) * 2 ^ x < (4503599627370496 + b) * 2 ^ y := by
  have h1 : (4503599627370496 + a) * 2 ^ x < (4503599627370496 + 4503599627370496) * 2 ^ x := Nat.mul_lt_mul_of_pos_right (by omega) (Nat.two_pow_pos x)
  have h2 : (4503599627370496 + 4503599627370496) * 2 ^ x = 4503599627370496 * 2 ^ (x + 1) := by
    rw [Nat.pow_succ, ← Nat.two_mul, Nat.mul_comm 2 4503599627370496, Nat.mul_assoc, Nat.mul_comm 2 (2 ^ x)]
  have h3 : 4503599627370496 * 2 ^ (x + 1) ≤ 4503599627370496 * 2 ^ y := Nat.mul_le_mul_left _ (Nat.pow_le_pow_right (by omega) h)
  have h4 : 4503599627370496 * 2 ^ y ≤ (4503599627370496 + b) * 2 ^ y := Nat.mul_le_mul_right _ (Nat.le_add_right _ _)
  rw [h2] at h1
  exact Nat.lt_of_lt_of_le h1 (Nat.le_trans h3 h4)

/-- two fractions in [1/2, 1) -/
theorem frac_lt (a b : Nat) (ha : a < 4503599627370496) (hb : b < 4503599627370496) : (double.order (1022 * 4503599627370496 + a) (1022 * 4503599627370496 + b) == some .lt) = decide (a < b) := by
  obtain ⟨a1, a2, a3, a4⟩ := parts_double 1022 a (by decide) ha
  obtain ⟨b1, b2, b3, b4⟩ := parts_double 1022 b (by decide) hb
  generalize 1022 * 4503599627370496 + a = A at *
  generalize 1022 * 4503599627370496 + b = B at *
  have ma : fman A = a + 4503599627370496 := by unfold fman; rw [a2, a3]; rfl
  have mb : fman B = b + 4503599627370496 := by unfold fman; rw [b2, b3]; rfl
  have pa : fplace A = -53 := by unfold fplace; rw [a2]; rfl
  have pb : fplace B = -53 := by unfold fplace; rw [b2]; rfl
  unfold Format.order
  rw [read_double A (by omega) (by rw [a2]; decide), read_double B (by omega) (by rw [b2]; decide), signed_cmp, a4, b4, signed_false, signed_false, pa, pb, ma, mb]
  show (some (compare (((a + 4503599627370496) * 2 ^ 0 : Nat) : Int) (((b + 4503599627370496) * 2 ^ 0 : Nat) : Int)) == some .lt) = _
  rw [Nat.pow_zero, Nat.mul_one, Nat.mul_one]
  rcases Nat.lt_trichotomy a b with h | h | h
  · rw [Int.compare_eq_lt.2 (by omega), decide_eq_true h]; rfl
  · rw [Int.compare_eq_eq.2 (by omega), decide_eq_false (by omega)]; rfl
  · rw [Int.compare_eq_gt.2 (by omega), decide_eq_false (by omega)]; rfl

/-- one round: r at least y; t is y moved to r's binade, or to the one below; t is at most r, r at most twice t, t is a multiple of y -/
theorem mod_round (R Y N U e : Nat) (hR : R < 9223372036854775808) (hY : Y < 9223372036854775808) (hr : fexp R ≠ 2047) (hy : fexp Y ≠ 2047) (vR : IsV R N) (vY : IsV Y U) (hU : 0 < U) (hNU : U ≤ N)
    (he : e = if ffrac R < ffrac Y then fexp R - 1 else fexp R) :
    1 ≤ e ∧ e ≤ 2046 ∧ fexp Y ≤ e ∧ ∃ T, IsV (e * 4503599627370496 + ffrac Y) (U * T) ∧ 1 ≤ T ∧ U * T ≤ N ∧ N ≤ 2 * (U * T) ∧ e * 4503599627370496 + ffrac Y < 9223372036854775808 ∧ fexp (e * 4503599627370496 + ffrac Y) ≠ 2047 := by
  have hxr := vR.exp (by omega)
  have hxy := vY.exp hU
  have hlr := fexp_lt R
  have hfr := ffrac_lt R
  have hfy := ffrac_lt Y
  have sR := norm_scale vR (by omega)
  have sY := norm_scale vY (by omega)
  have hle : U * hiP ≤ N * hiP := Nat.mul_le_mul_right _ hNU
  rw [← sR, ← sY] at hle
  have hx : fexp Y ≤ fexp R := by
    rcases Nat.lt_or_ge (fexp R) (fexp Y) with h | h
    · have := sig_lt (ffrac R) (ffrac Y) (fexp R - 1) (fexp Y - 1) hfr (by omega)
      omega
    · exact h
  have hx2 : ffrac R < ffrac Y → fexp Y < fexp R := fun h => by
    rcases Nat.lt_or_ge (fexp Y) (fexp R) with h2 | h2
    · exact h2
    · have h3 : fexp R - 1 = fexp Y - 1 := by omega
      rw [h3] at hle
      have := Nat.le_of_mul_le_mul_right hle (Nat.two_pow_pos (fexp Y - 1))
      omega
  have hey : fexp Y ≤ e := by
    rw [he]; split
    · have := hx2 (by assumption); omega
    · exact hx
  have he1 : 1 ≤ e := by omega
  have he2 : e ≤ 2046 := by rw [he]; split <;> omega
  obtain ⟨t1, t2, t3, t4⟩ := parts_double e (ffrac Y) (by omega) hfy
  have sT : (4503599627370496 + ffrac Y) * 2 ^ (e - 1) = U * 2 ^ (e - fexp Y) * hiP := by
    rw [show e - 1 = (fexp Y - 1) + (e - fexp Y) by omega, Nat.pow_add, ← Nat.mul_assoc, sY, Nat.mul_assoc, Nat.mul_assoc, Nat.mul_comm hiP]
  have vT : IsV (e * 4503599627370496 + ffrac Y) (U * 2 ^ (e - fexp Y)) := norm_of_scale (by rw [t2]; exact he1) (by rw [t2, t3]; exact sT)
  have hlo : (4503599627370496 + ffrac Y) * 2 ^ (e - 1) ≤ (4503599627370496 + ffrac R) * 2 ^ (fexp R - 1) := by
    by_cases h : ffrac R < ffrac Y
    · rw [if_pos h] at he
      exact Nat.le_of_lt (sig_lt _ _ _ _ hfy (by omega))
    · rw [if_neg h] at he
      rw [he]
      exact Nat.mul_le_mul_right _ (by omega)
  have hhi : (4503599627370496 + ffrac R) * 2 ^ (fexp R - 1) ≤ 2 * ((4503599627370496 + ffrac Y) * 2 ^ (e - 1)) := by
    have h2 : 2 * ((4503599627370496 + ffrac Y) * 2 ^ (e - 1)) = (4503599627370496 + ffrac Y) * 2 ^ (e - 1 + 1) := by
      rw [Nat.pow_succ, Nat.mul_left_comm, Nat.mul_comm 2]
    rw [h2]
    by_cases h : ffrac R < ffrac Y
    · rw [if_pos h] at he
      rw [show e - 1 + 1 = fexp R - 1 by omega]
      exact Nat.mul_le_mul_right _ (by omega)
    · rw [if_neg h] at he
      exact Nat.le_of_lt (sig_lt _ _ _ _ hfr (by omega))
  rw [sR, sT] at hlo
  rw [sR, sT, ← Nat.mul_assoc] at hhi
  exact ⟨he1, he2, hey, 2 ^ (e - fexp Y), vT, Nat.one_le_two_pow, Nat.le_of_mul_le_mul_right hlo hiP_pos, Nat.le_of_mul_le_mul_right hhi hiP_pos, t1, by rw [t2]; omega⟩

/-- an integer's own bits -/
theorem IsV.bits {B N : Nat} (h : IsV B N) (hB : B < 9223372036854775808) (hf : fexp B ≠ 2047) : B = double.nearest false N 0 := by
  rcases Nat.eq_zero_or_pos N with h0 | h0
  · subst h0
    have hm := h.zero
    have hz : B = 0 := by
      unfold fman at hm
      split at hm
      · rename_i he
        unfold fexp at he
        unfold ffrac at hm
        omega
      · omega
    rw [hz]
    unfold Format.nearest
    rw [if_pos rfl]
    rfl
  · have na : fneg B = false := by unfold fneg; rw [Nat.div_eq_of_lt hB]; rfl
    have := h.exact (by omega) hf h0
    rw [na] at this
    exact this.symm
theorem mod_step (N U T V : Nat) (h : N % U = V % U) (h2 : U * T ≤ N) : (N - U * T) % U = V % U := by
  rw [← h]
  exact Nat.sub_mul_mod h2
end Go.Proofs.YtgohhebffcldeaaGreatDoor.Num

set_option linter.unusedVariables false
set_option linter.unusedSimpArgs false
namespace Go.Proofs.YtgohhebffcldeaaGreatDoor.Num
open Go.RowKit
open Ieee

/-- the bits of a number or an infinity -/
def fnum (B : Nat) : Prop := B < 18446744073709551616 ∧ ¬ (fexp B = 2047 ∧ ffrac B ≠ 0)

theorem word_num (neg : Bool) (r : Nat) (h : r ≤ 9218868437227405312) : fnum (double.word neg r) := by
  have hsw : double.signWeight = 9223372036854775808 := by decide
  unfold Format.word
  rw [hsw]
  unfold fnum fexp ffrac
  cases neg
  · simp only [Bool.false_eq_true, if_false]
    refine ⟨by omega, fun q => ?_⟩
    omega
  · simp only [if_true]
    refine ⟨by omega, fun q => ?_⟩
    omega
theorem nearest_num (neg : Bool) (mag : Nat) (place : Int) : fnum (double.nearest neg mag place) := by
  have hir : double.infRung = 9218868437227405312 := by decide
  unfold Format.nearest
  split
  · exact word_num neg 0 (by decide)
  · refine word_num neg _ ?_
    rw [hir]
    exact Nat.min_le_right _ _
theorem nearest_zero : double.nearest false 0 0 = 0 := by decide
theorem inf_num (neg : Bool) : fnum (double.word neg double.infRung) := word_num neg _ (by decide)
theorem read_two : double.read 4611686018427387904 = .number false 4503599627370496 (-51) := by decide
theorem mul_two (B : Nat) (h : fnum B) : ∃ r, double.mul B 4611686018427387904 = some r ∧ fnum r := by
  unfold Format.mul
  rw [read_two]
  by_cases hf : fexp B = 2047
  · have h0 : ffrac B = 0 := by
      rcases Nat.eq_zero_or_pos (ffrac B) with h0 | h0
      · exact h0
      · exact absurd ⟨hf, by omega⟩ h.2
    rw [read_inf B h.1 hf h0]
    refine ⟨_, rfl, ?_⟩
    exact inf_num _
  · rw [read_double B h.1 hf]
    refine ⟨_, rfl, ?_⟩
    exact nearest_num _ _ _

theorem mul_swap (a b c d : Nat) : a * b * (c * d) = a * c * (b * d) := by
  rw [Nat.mul_assoc, Nat.mul_assoc, Nat.mul_left_comm b c d]
/-- how a number that is a double lies in words: its highest bit, and the double's significand -/
theorem IsV.top {B V : Nat} (h : IsV B V) (hV : 0 < V) (hf : fexp B ≠ 2047) (L b : Nat) (h1 : 2 ^ (b - 1) ≤ V) (h2 : V < 2 ^ b) (hL : b ≤ 64 * L) (h0 : 0 < L) :
    fexp B = b + 1022 ∧ V * 2 ^ (64 * L - b) = (4503599627370496 + ffrac B) * 2 ^ (64 * L - 53) := by
  have he := h.exp hV
  have hs := norm_scale h (by omega)
  have hfr := ffrac_lt B
  have hx := fexp_lt B
  have hb : 0 < b := by
    rcases Nat.eq_zero_or_pos b with q | q
    · subst q; simp at h2; omega
    · exact q
  -- the scale
  obtain ⟨m, hm⟩ : ∃ m, m = 4503599627370496 + ffrac B := ⟨_, rfl⟩
  rw [← hm] at hs ⊢
  have m1 : 2 ^ 52 ≤ m := by rw [hm]; have : (2 : Nat) ^ 52 = 4503599627370496 := by decide
                             omega
  have m2 : m < 2 ^ 53 := by rw [hm]; have : (2 : Nat) ^ 53 = 9007199254740992 := by decide
                             omega
  clear hm hfr
  obtain ⟨x, hx1⟩ : ∃ x, x = fexp B - 1 := ⟨_, rfl⟩
  obtain ⟨c, hc⟩ : ∃ c, c = b + 1074 := ⟨_, rfl⟩
  obtain ⟨d, hd⟩ : ∃ d, d = b - 1 + 1074 := ⟨_, rfl⟩
  have p1 := hiP_add b c hc
  have p2 := hiP_add (b - 1) d hd
  rw [← hx1] at hs
  have e1 : 2 ^ (52 + x) ≤ V * hiP := by
    rw [← hs, Nat.pow_add]; exact Nat.mul_le_mul_right _ m1
  have e2 : V * hiP < 2 ^ (53 + x) := by
    rw [← hs, Nat.pow_add]; exact Nat.mul_lt_mul_of_pos_right m2 (Nat.two_pow_pos _)
  have e3 : V * hiP < 2 ^ c := by
    rw [p1]; exact Nat.mul_lt_mul_of_pos_right h2 hiP_pos
  have e4 : 2 ^ d ≤ V * hiP := by
    rw [p2]; exact Nat.mul_le_mul_right _ h1
  have f1 : 52 + x < c := (Nat.pow_lt_pow_iff_right (by decide)).1 (Nat.lt_of_le_of_lt e1 e3)
  have f2 : d < 53 + x := (Nat.pow_lt_pow_iff_right (by decide)).1 (Nat.lt_of_le_of_lt e4 e2)
  clear e1 e2 e3 e4 p2
  have f3 : fexp B = b + 1022 := by omega
  have f4 : x = b + 1021 := by omega
  refine ⟨f3, ?_⟩
  clear h1 h2 he
  have g1 : (V * 2 ^ (64 * L - b)) * (hiP * 2 ^ b) = (m * 2 ^ (64 * L - 53)) * (hiP * 2 ^ b) := by
    have a1 : V * 2 ^ (64 * L - b) * (hiP * 2 ^ b) = (V * hiP) * 2 ^ (64 * L) := by
      rw [show 2 ^ (64 * L) = 2 ^ (64 * L - b) * 2 ^ b by rw [← Nat.pow_add]; congr 1; omega]
      exact mul_swap _ _ _ _
    have a2 : (m * 2 ^ (64 * L - 53)) * (hiP * 2 ^ b) = (m * 2 ^ x) * 2 ^ (64 * L) := by
      have e5 : 64 * L - 53 + c = x + 64 * L := by omega
      have : 2 ^ (64 * L - 53) * (hiP * 2 ^ b) = 2 ^ x * 2 ^ (64 * L) := by
        rw [Nat.mul_comm hiP, ← p1, ← Nat.pow_add, ← Nat.pow_add, e5]
      rw [Nat.mul_assoc, this, Nat.mul_assoc]
    rw [a1, a2, hs]
  exact Nat.eq_of_mul_eq_mul_right (Nat.mul_pos hiP_pos (Nat.two_pow_pos _)) g1

end Go.Proofs.YtgohhebffcldeaaGreatDoor.Num
