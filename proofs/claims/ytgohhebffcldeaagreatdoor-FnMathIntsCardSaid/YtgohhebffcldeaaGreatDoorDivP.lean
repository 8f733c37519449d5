/- Plain arithmetic: two words divided by one (in half words; by a reciprocal), many words by one; the words of a product. No program in sight. -/
import Derived.Test.YtgohhebffcldeaaGreatDoorNum
namespace Go.Proofs.YtgohhebffcldeaaGreatDoor.Num

theorem div_mod_of {n y q r : Nat} (h : n = y * q + r) (hr : r < y) : n / y = q ∧ n % y = r := by
  subst h
  refine ⟨?_, by rw [Nat.mul_add_mod, Nat.mod_eq_of_lt hr]⟩
  rw [Nat.mul_add_div (by omega), Nat.div_eq_of_lt hr]; rfl

/-- the true digit of a half step, and what it leaves -/
def hq (u d Y : Nat) : Nat := (u * 4294967296 + d) / Y
def hr (u d Y : Nat) : Nat := (u * 4294967296 + d) % Y

theorem half_init {u d Y a b : Nat} (hY : Y = a * 4294967296 + b) (ha : 0 < a) (hd : d < 4294967296) : u / a * a + u % a = u ∧ hq u d Y ≤ u / a := by
  refine ⟨by have := Nat.div_add_mod u a; rw [Nat.mul_comm] at this; exact this, ?_⟩
  rw [Nat.le_div_iff_mul_le ha]
  have h1 : hq u d Y * Y ≤ u * 4294967296 + d := Nat.div_mul_le_self _ _
  generalize hq u d Y = Q at *
  have h2 : Q * Y = Q * a * 4294967296 + Q * b := by rw [hY, Nat.mul_add, Nat.mul_assoc]
  omega
theorem half_gt {u d Y a b q r : Nat} (hY : Y = a * 4294967296 + b) (hd : d < 4294967296) (hu : u < Y) (hq1 : q * a + r = u) (h : 4294967296 ≤ q ∨ 4294967296 * r + d < q * b) : hq u d Y < q := by
  unfold hq
  rw [Nat.div_lt_iff_lt_mul (by omega : 0 < Y)]
  rcases h with h | h
  · have h2 : 4294967296 * Y ≤ q * Y := Nat.mul_le_mul_right _ h
    omega
  · have h2 : q * Y = q * a * 4294967296 + q * b := by rw [hY, Nat.mul_add, Nat.mul_assoc]
    omega
theorem half_le {u d Y a b q r : Nat} (hY : Y = a * 4294967296 + b) (hu : u < Y) (hq1 : q * a + r = u) (h : q * b ≤ 4294967296 * r + d) : q ≤ hq u d Y := by
  unfold hq
  rw [Nat.le_div_iff_mul_le (by omega : 0 < Y)]
  have h2 : q * Y = q * a * 4294967296 + q * b := by rw [hY, Nat.mul_add, Nat.mul_assoc]
  omega
theorem half_break {u d Y a b q r : Nat} (hY : Y = a * 4294967296 + b) (hb : b < 4294967296) (hu : u < Y) (hq1 : q * a + r = u) (hr : 4294967296 ≤ r) : q ≤ hq u d Y := by
  refine half_le hY hu hq1 ?_
  have h1 : q * a < 4294967296 * a := by omega
  have h2 : q < 4294967296 := Nat.lt_of_mul_lt_mul_right h1
  have h3 : q * b ≤ 4294967296 * b := Nat.mul_le_mul_right _ (by omega)
  omega
theorem half_lt {u d Y : Nat} (hd : d < 4294967296) (hu : u < Y) : hq u d Y < 4294967296 := by
  unfold hq
  rw [Nat.div_lt_iff_lt_mul (by omega : 0 < Y)]
  omega
theorem half_rem {u d Y : Nat} (hu : u < Y) : hr u d Y < Y ∧ u * 4294967296 + d = hq u d Y * Y + hr u d Y := by
  refine ⟨Nat.mod_lt _ (by omega), ?_⟩
  have := Nat.div_add_mod (u * 4294967296 + d) Y
  unfold hq hr
  rw [Nat.mul_comm] at this
  exact this.symm
theorem two_aux {u d1 d0 Y q1 q0 r1 r0 : Nat} (a : u * 4294967296 + d1 = q1 * Y + r1) (b : r1 * 4294967296 + d0 = q0 * Y + r0) :
    u * 18446744073709551616 + (d1 * 4294967296 + d0) = Y * (q1 * 4294967296 + q0) + r0 := by
  have e : Y * (q1 * 4294967296 + q0) = q1 * Y * 4294967296 + q0 * Y := by
    rw [Nat.mul_add, ← Nat.mul_assoc, Nat.mul_comm Y q1, Nat.mul_comm Y q0]
  have h5 : u * 18446744073709551616 = u * 4294967296 * 4294967296 := by rw [Nat.mul_assoc]
  rw [e, h5, ← Nat.add_assoc, ← Nat.add_mul, a, Nat.add_mul, Nat.add_assoc, b, Nat.add_assoc]
/-- both half steps -/
theorem two_halves {u d1 d0 Y : Nat} (hu : u < Y) :
    (u * 18446744073709551616 + (d1 * 4294967296 + d0)) / Y = hq u d1 Y * 4294967296 + hq (hr u d1 Y) d0 Y ∧ (u * 18446744073709551616 + (d1 * 4294967296 + d0)) % Y = hr (hr u d1 Y) d0 Y := by
  obtain ⟨h1, h2⟩ := half_rem (d := d1) hu
  obtain ⟨h3, h4⟩ := half_rem (d := d0) h1
  refine div_mod_of ?_ h3
  exact two_aux h2 h4

theorem pow64 {s : Nat} (hs : s ≤ 64) : (18446744073709551616 : Nat) = 2 ^ (64 - s) * 2 ^ s := by
  rw [← Nat.pow_add, show 64 - s + s = 64 by omega]
/-- a word shifted: what goes over, what stays -/
theorem shl_over (lo s : Nat) (hs : s ≤ 64) : lo * 2 ^ s = lo / 2 ^ (64 - s) * 18446744073709551616 + lo * 2 ^ s % 18446744073709551616 := by
  have h : lo * 2 ^ s / 18446744073709551616 = lo / 2 ^ (64 - s) := by
    rw [pow64 hs, Nat.mul_div_mul_right _ _ (Nat.two_pow_pos s)]
  have := Nat.div_add_mod (lo * 2 ^ s) 18446744073709551616
  rw [h] at this
  omega
theorem shl_two (hi lo s : Nat) (hs : s ≤ 64) : (hi * 18446744073709551616 + lo) * 2 ^ s = (hi * 2 ^ s + lo / 2 ^ (64 - s)) * 18446744073709551616 + lo * 2 ^ s % 18446744073709551616 := by
  have h := shl_over lo s hs
  rw [Nat.add_mul, Nat.add_mul, Nat.mul_right_comm]
  omega
theorem shl_top {hi lo y s : Nat} (hs : s ≤ 64) (h : hi < y) (hlo : lo < 18446744073709551616) : hi * 2 ^ s + lo / 2 ^ (64 - s) < y * 2 ^ s := by
  have h1 : lo / 2 ^ (64 - s) < 2 ^ s := by
    rw [Nat.div_lt_iff_lt_mul (Nat.two_pow_pos _), Nat.mul_comm, ← pow64 hs]; exact hlo
  have h2 : (hi + 1) * 2 ^ s ≤ y * 2 ^ s := Nat.mul_le_mul_right _ h
  rw [Nat.add_mul] at h2
  omega

/-- the reciprocal of a word whose top bit is 1 -/
theorem recip_spec {d m : Nat} (hd0 : 0 < d) (hd2 : d < 18446744073709551616) (hm : m = ((18446744073709551615 - d) * 18446744073709551616 + 18446744073709551615) / d) :
    m * d + 18446744073709551616 * d + 1 ≤ 340282366920938463463374607431768211456 ∧ 340282366920938463463374607431768211456 ≤ m * d + 18446744073709551616 * d + d := by
  have h1 := Nat.div_add_mod ((18446744073709551615 - d) * 18446744073709551616 + 18446744073709551615) d
  have h2 := Nat.mod_lt ((18446744073709551615 - d) * 18446744073709551616 + 18446744073709551615) hd0
  rw [← hm, Nat.mul_comm] at h1
  generalize m * d = x at *
  omega
theorem divWW_plain {d m x1 x0 q : Nat} (hd : 9223372036854775808 ≤ d) (hd2 : d < 18446744073709551616) (h1 : x1 < d) (h0 : x0 < 18446744073709551616)
    (hm1 : m * d + 18446744073709551616 * d + 1 ≤ 340282366920938463463374607431768211456) (hm2 : 340282366920938463463374607431768211456 ≤ m * d + 18446744073709551616 * d + d)
    (hq : q = (m * x1 + x1 * 18446744073709551616 + x0) / 18446744073709551616) :
    d * q ≤ x1 * 18446744073709551616 + x0 ∧ x1 * 18446744073709551616 + x0 - d * q < 18446744073709551616 + d := by
  obtain ⟨r, hr⟩ : ∃ r, r = (m * x1 + x1 * 18446744073709551616 + x0) % 18446744073709551616 := ⟨_, rfl⟩
  have hrl : r < 18446744073709551616 := by rw [hr]; exact Nat.mod_lt _ (by decide)
  have hE : m * x1 + x1 * 18446744073709551616 + x0 = q * 18446744073709551616 + r := by omega
  have hE2 : d * (m * x1 + x1 * 18446744073709551616 + x0) = d * (q * 18446744073709551616 + r) := by rw [hE]
  rw [Nat.mul_add, Nat.mul_add, Nat.mul_add, ← Nat.mul_assoc, ← Nat.mul_assoc, ← Nat.mul_assoc, Nat.mul_comm d m] at hE2
  have hA := Nat.mul_le_mul_right x1 hm1
  have hB := Nat.mul_le_mul_right x1 hm2
  rw [Nat.add_mul, Nat.add_mul, Nat.mul_assoc 18446744073709551616 d x1, Nat.one_mul] at hA
  rw [Nat.add_mul, Nat.add_mul, Nat.mul_assoc 18446744073709551616 d x1] at hB
  have hC : d * x0 ≤ 18446744073709551616 * x0 := Nat.mul_le_mul_right _ (by omega)
  have hD : (18446744073709551616 - d) * x0 ≤ (18446744073709551616 - d) * 18446744073709551615 := Nat.mul_le_mul_left _ (by omega)
  rw [Nat.sub_mul, Nat.sub_mul] at hD
  have hF : d * (x1 + 1) ≤ d * d := Nat.mul_le_mul_left _ h1
  rw [Nat.mul_add, Nat.mul_one] at hF
  have hG : d * d ≤ 18446744073709551616 * d := Nat.mul_le_mul_right _ (by omega)
  have hH : d * (r + 1) ≤ d * 18446744073709551616 := Nat.mul_le_mul_left _ hrl
  rw [Nat.mul_add, Nat.mul_one] at hH
  clear hE hr hm1 hm2 hq
  generalize m * d * x1 = p2 at *
  generalize d * x1 = p3 at *
  generalize d * x0 = p4 at *
  generalize d * r = p5 at *
  generalize d * d = p6 at *
  generalize d * q = p1 at *
  constructor <;> omega

/-- a word of a quotient by one word, and what it leaves -/
theorem divw_digit {X y i : Nat} (hy : 0 < y) :
    (X / 2 ^ (64 * (i + 1)) % y * 18446744073709551616 + wd X i) / y = wd (X / y) i ∧ (X / 2 ^ (64 * (i + 1)) % y * 18446744073709551616 + wd X i) % y = X / 2 ^ (64 * i) % y := by
  have h1 := div_split X i
  have hx := wd_lt X i
  have h2 := Nat.div_add_mod (X / 2 ^ (64 * (i + 1))) y
  have hT := Nat.mod_lt (X / 2 ^ (64 * (i + 1))) hy
  have h5 : wd (X / y) i = X / 2 ^ (64 * i) / y % 18446744073709551616 := by
    unfold wd; rw [Nat.div_div_eq_div_mul, Nat.div_div_eq_div_mul, Nat.mul_comm y]
  rw [h5]
  generalize X / 2 ^ (64 * (i + 1)) % y = T at *
  generalize X / 2 ^ (64 * (i + 1)) / y = z at *
  generalize X / 2 ^ (64 * (i + 1)) = Z at *
  have h6 : X / 2 ^ (64 * i) = y * (z * 18446744073709551616) + (T * 18446744073709551616 + wd X i) := by
    rw [h1, ← h2, ← Nat.mul_assoc]
    generalize y * z = k at *
    omega
  rw [h6, Nat.mul_add_mod, Nat.mul_add_div hy]
  have h7 : (T * 18446744073709551616 + wd X i) / y < 18446744073709551616 := by
    rw [Nat.div_lt_iff_lt_mul hy]
    have h8 : (T + 1) * 18446744073709551616 ≤ y * 18446744073709551616 := Nat.mul_le_mul_right _ hT
    omega
  refine ⟨?_, rfl⟩
  generalize (T * 18446744073709551616 + wd X i) / y = k at *
  omega

/-- what a run of word products has made of k words: the lowest k words of Z + Y * m + a, with what goes over -/
def acc (Z Y m a k : Nat) : Nat := Z % 2 ^ (64 * k) + Y % 2 ^ (64 * k) * m + a
theorem mod_succ (V k : Nat) : V % 2 ^ (64 * (k + 1)) = V % 2 ^ (64 * k) + 2 ^ (64 * k) * wd V k := by
  rw [show 64 * (k + 1) = 64 * k + 64 by omega, Nat.pow_add, Nat.mod_mul]; rfl
theorem acc_zero (Z Y m a : Nat) : acc Z Y m a 0 = a := by simp [acc, Nat.mod_one]
theorem acc_succ (Z Y m a k : Nat) : acc Z Y m a (k + 1) = acc Z Y m a k + 2 ^ (64 * k) * (wd Z k + wd Y k * m) := by
  unfold acc
  rw [mod_succ, mod_succ, Nat.add_mul, Nat.mul_add, Nat.mul_assoc]
  omega
theorem acc_div (Z Y m a k : Nat) : acc Z Y m a (k + 1) / 2 ^ (64 * k) = acc Z Y m a k / 2 ^ (64 * k) + (wd Z k + wd Y k * m) := by
  rw [acc_succ, Nat.add_mul_div_left _ _ (Nat.two_pow_pos _)]
theorem acc_wd (Z Y m a k : Nat) : wd (acc Z Y m a (k + 1)) k = (acc Z Y m a k / 2 ^ (64 * k) + (wd Z k + wd Y k * m)) % 18446744073709551616 := by
  unfold wd; rw [acc_div]; rfl
theorem acc_carry (Z Y m a k : Nat) : acc Z Y m a (k + 1) / 2 ^ (64 * (k + 1)) = (acc Z Y m a k / 2 ^ (64 * k) + (wd Z k + wd Y k * m)) / 18446744073709551616 := by
  rw [show 64 * (k + 1) = 64 * k + 64 by omega, Nat.pow_add, ← Nat.div_div_eq_div_mul, acc_div]
theorem wd_low {V W k j : Nat} (hj : j < k) : wd (V + 2 ^ (64 * k) * W) j = wd V j := by
  unfold wd
  rw [show 64 * k = 64 * j + (64 + 64 * (k - j - 1)) by omega, Nat.pow_add, Nat.pow_add, Nat.mul_assoc, Nat.add_mul_div_left _ _ (Nat.two_pow_pos _), Nat.mul_assoc, Nat.add_mul_mod_self_left]
theorem acc_low {Z Y m a k j : Nat} (hj : j < k) : wd (acc Z Y m a (k + 1)) j = wd (acc Z Y m a k) j := by
  rw [acc_succ, wd_low hj]
theorem acc_full {Z Y m a n : Nat} (hZ : Z < 2 ^ (64 * n)) (hY : Y < 2 ^ (64 * n)) : acc Z Y m a n = Z + Y * m + a := by
  unfold acc; rw [Nat.mod_eq_of_lt hZ, Nat.mod_eq_of_lt hY]
theorem acc_lt {Z Y m a k : Nat} (hm : m < 18446744073709551616) (ha : a < 18446744073709551616) : acc Z Y m a k / 2 ^ (64 * k) < 18446744073709551616 := by
  rw [Nat.div_lt_iff_lt_mul (Nat.two_pow_pos _)]
  unfold acc
  have h1 := Nat.mod_lt Z (Nat.two_pow_pos (64 * k))
  have h2 := Nat.mod_lt Y (Nat.two_pow_pos (64 * k))
  have hp := Nat.two_pow_pos (64 * k)
  generalize 2 ^ (64 * k) = P at *
  have h3 : Y % P * m ≤ (P - 1) * 18446744073709551615 := Nat.mul_le_mul (by omega) (by omega)
  generalize Y % P * m = x at *
  omega
theorem wd_shift (V k i : Nat) : wd (V / 2 ^ (64 * k)) i = wd V (k + i) := by
  unfold wd
  rw [Nat.div_div_eq_div_mul, ← Nat.pow_add, show 64 * k + 64 * i = 64 * (k + i) by omega]

/-- a round of the schoolbook product: P is X times the lowest k words of Y -/
theorem mul_round {X Y m k : Nat} (hX : X < 2 ^ (64 * m)) : X * (Y % 2 ^ (64 * k)) < 2 ^ (64 * (m + k)) ∧ X * (Y % 2 ^ (64 * k)) / 2 ^ (64 * k) < 2 ^ (64 * m) ∧
    X * (Y % 2 ^ (64 * (k + 1))) / 2 ^ (64 * k) = X * (Y % 2 ^ (64 * k)) / 2 ^ (64 * k) + X * wd Y k + 0 ∧ ∀ j, j < k → wd (X * (Y % 2 ^ (64 * (k + 1)))) j = wd (X * (Y % 2 ^ (64 * k))) j := by
  have h1 : X * (Y % 2 ^ (64 * k)) < 2 ^ (64 * (m + k)) := by
    rw [show 64 * (m + k) = 64 * m + 64 * k by omega, Nat.pow_add]
    exact Nat.mul_lt_mul_of_lt_of_le hX (Nat.le_of_lt (Nat.mod_lt _ (Nat.two_pow_pos _))) (Nat.two_pow_pos _)
  have h2 : X * (Y % 2 ^ (64 * (k + 1))) = X * (Y % 2 ^ (64 * k)) + 2 ^ (64 * k) * (X * wd Y k) := by
    rw [mod_succ, Nat.mul_add, Nat.mul_left_comm]
  refine ⟨h1, ?_, ?_, fun j hj => ?_⟩
  · rw [Nat.div_lt_iff_lt_mul (Nat.two_pow_pos _), ← Nat.pow_add, show 64 * m + 64 * k = 64 * (m + k) by omega]; exact h1
  · rw [h2, Nat.add_mul_div_left _ _ (Nat.two_pow_pos _), Nat.add_zero]
  · rw [h2, wd_low hj]

theorem odd_coprime {x k : Nat} (h : x % 2 = 1) : Nat.gcd x (2 ^ k) = 1 := by
  have : Nat.Coprime x 2 := by
    unfold Nat.Coprime
    rw [Nat.gcd_comm, Nat.gcd_rec, h]; decide
  exact Nat.Coprime.pow_right k this

end Go.Proofs.YtgohhebffcldeaaGreatDoor.Num
