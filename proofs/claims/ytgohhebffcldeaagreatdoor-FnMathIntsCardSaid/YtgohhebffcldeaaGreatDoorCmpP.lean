/- Plain arithmetic: signed magnitudes compared; an integer against a float, by what they are worth. No program in sight. -/
import Derived.Test.YtgohhebffcldeaaGreatDoorFp
namespace Go.Proofs.YtgohhebffcldeaaGreatDoor.Num

/-- a sign and a magnitude -/
def sI (n : Bool) (V : Nat) : Int := if n then -(V : Int) else (V : Int)
def icmp (a b : Int) : Int := if a < b then -1 else if b < a then 1 else 0
/-- is a finite float whole? -/
def fall (B : Nat) : Bool := decide (0 ≤ fplace B) || decide (fman B % 2 ^ (-fplace B).toNat = 0)
/-- an integer against a finite float -/
def fcmp (x : Int) (B : Nat) : Int := icmp (x * ((2 ^ (-fplace B).toNat : Nat) : Int)) (sI (fneg B) (fman B * 2 ^ (fplace B).toNat))

theorem icmp_swap (a b : Int) : icmp b a = -icmp a b := by
  unfold icmp; split <;> split <;> first | rfl | omega
theorem icmp_neg (a b : Int) : icmp (-a) (-b) = -icmp a b := by
  unfold icmp; split <;> split <;> first | rfl | omega | (split <;> first | rfl | omega)
theorem icmp_bound (a b : Int) : -1 ≤ icmp a b ∧ icmp a b ≤ 1 := by
  unfold icmp; split
  · omega
  · split <;> omega
theorem icmp_mul (a b : Int) (P : Nat) (hP : 0 < P) : icmp (a * (P : Int)) (b * (P : Int)) = icmp a b := by
  have hp : (0 : Int) < (P : Int) := by omega
  have h1 : a * (P : Int) < b * (P : Int) ↔ a < b := ⟨fun h => Int.lt_of_mul_lt_mul_right h (by omega), fun h => Int.mul_lt_mul_of_pos_right h hp⟩
  have h2 : b * (P : Int) < a * (P : Int) ↔ b < a := ⟨fun h => Int.lt_of_mul_lt_mul_right h (by omega), fun h => Int.mul_lt_mul_of_pos_right h hp⟩
  unfold icmp
  simp only [h1, h2]
theorem sI_neg (n : Bool) (V : Nat) : sI (!n) V = -sI n V := by cases n <;> simp [sI]
theorem sI_mul (n : Bool) (V P : Nat) : sI n (V * P) = sI n V * (P : Int) := by
  cases n
  · simp [sI]
  · simp [sI, Int.neg_mul]
theorem sI_and (n : Bool) (V : Nat) : sI (n && decide (0 < V)) V = sI n V := by
  cases n
  · simp
  · by_cases h : 0 < V
    · simp [h]
    · obtain rfl : V = 0 := by omega
      simp [sI]
/-- the order of signed magnitudes, by the signs and the magnitudes -/
theorem icmp_signed (xn yn : Bool) (X Y : Nat) (hx : xn = true → 0 < X) (hy : yn = true → 0 < Y) :
    icmp (sI xn X) (sI yn Y) = if xn = yn then (if xn then -sgn3 X Y else sgn3 X Y) else if xn then -1 else 1 := by
  cases xn <;> cases yn
  · simp only [sI, icmp, sgn3, Bool.false_eq_true, if_false, if_true]
    split <;> split <;> first | rfl | omega | (split <;> first | rfl | omega)
  · have := hy rfl
    simp [sI, icmp]
    split
    · omega
    · split
      · rfl
      · omega
  · have := hx rfl
    simp [sI, icmp]
    omega
  · simp only [sI, icmp, sgn3, if_true]
    split <;> split <;> first | rfl | omega | (split <;> first | rfl | omega)

theorem cmp_scale (x : Int) (q r P : Nat) (hr : r < P) : icmp (x * (P : Int)) ((P * q + r : Nat) : Int) = if x = (q : Int) then (if r = 0 then 0 else -1) else icmp x (q : Int) := by
  have hP : (0 : Int) ≤ (P : Int) := by omega
  have e : ((P * q + r : Nat) : Int) = (q : Int) * (P : Int) + (r : Int) := by
    rw [Int.natCast_add, Int.natCast_mul, Int.mul_comm]
  rw [e]
  rcases Int.lt_trichotomy x (q : Int) with h | h | h
  · rw [if_neg (by omega)]
    have h1 : (x + 1) * (P : Int) ≤ (q : Int) * (P : Int) := Int.mul_le_mul_of_nonneg_right (by omega) hP
    rw [Int.add_mul, Int.one_mul] at h1
    generalize x * (P : Int) = a at *
    generalize (q : Int) * (P : Int) = b at *
    unfold icmp
    rw [if_pos (by omega), if_pos h]
  · rw [if_pos h, h]
    generalize (q : Int) * (P : Int) = b at *
    unfold icmp
    by_cases h0 : r = 0
    · rw [if_pos h0, if_neg (by omega), if_neg (by omega)]
    · rw [if_neg h0, if_pos (by omega)]
  · rw [if_neg (by omega)]
    have h1 : ((q : Int) + 1) * (P : Int) ≤ x * (P : Int) := Int.mul_le_mul_of_nonneg_right (by omega) hP
    rw [Int.add_mul, Int.one_mul] at h1
    generalize x * (P : Int) = a at *
    generalize (q : Int) * (P : Int) = b at *
    unfold icmp
    rw [if_neg (by omega), if_pos (by omega), if_neg (by omega), if_pos h]
theorem cmp_scale_neg (x : Int) (q r P : Nat) (hr : r < P) : icmp (x * (P : Int)) (-((P * q + r : Nat) : Int)) = if x = -(q : Int) then (if r = 0 then 0 else 1) else icmp x (-(q : Int)) := by
  have h := cmp_scale (-x) q r P hr
  have e1 : x * (P : Int) = -(-x * (P : Int)) := by rw [Int.neg_mul, Int.neg_neg]
  rw [e1, icmp_neg, h]
  have e2 : icmp x (-(q : Int)) = -icmp (-x) (q : Int) := by
    have := icmp_neg (-x) (q : Int)
    rwa [Int.neg_neg] at this
  rw [e2]
  by_cases hx : x = -(q : Int)
  · rw [if_pos (by omega), if_pos hx]
    split <;> rfl
  · rw [if_neg (by omega), if_neg hx]

/-- the reference's way: by the whole part first -/
theorem fcmp_whole (x : Int) (B : Nat) : (if icmp x (sI (fneg B) (fwhole B)) ≠ 0 ∨ fall B = true then icmp x (sI (fneg B) (fwhole B)) else if fneg B then 1 else -1) = fcmp x B := by
  unfold fcmp fall fwhole
  by_cases hp : 0 ≤ fplace B
  · have e : (-fplace B).toNat = 0 := by omega
    simp [hp, e]
  · have e : (fplace B).toNat = 0 := by omega
    rw [e]
    simp only [hp, if_false, decide_false, Bool.false_or, decide_eq_true_eq, Nat.pow_zero, Nat.mul_one]
    obtain ⟨P, hP⟩ : ∃ P, P = 2 ^ (-fplace B).toNat := ⟨_, rfl⟩
    have hP0 : 0 < P := by rw [hP]; exact Nat.two_pow_pos _
    rw [← hP]
    have hM : fman B = P * (fman B / P) + fman B % P := (Nat.div_add_mod _ _).symm
    have hr : fman B % P < P := Nat.mod_lt _ hP0
    generalize fman B / P = q at *
    generalize fman B % P = r at *
    rw [hM]
    cases fneg B
    · simp only [sI, Bool.false_eq_true, if_false]
      rw [cmp_scale x q r P hr]
      by_cases hx : x = (q : Int)
      · subst hx
        have h0 : icmp (q : Int) (q : Int) = 0 := by unfold icmp; simp
        rw [h0]
        by_cases hr0 : r = 0 <;> simp [hr0]
      · have h0 : icmp x (q : Int) ≠ 0 := by
          unfold icmp; split
          · omega
          · split <;> omega
        simp [hx, h0]
    · simp only [sI, if_true]
      rw [cmp_scale_neg x q r P hr]
      by_cases hx : x = -(q : Int)
      · subst hx
        have h0 : icmp (-(q : Int)) (-(q : Int)) = 0 := by unfold icmp; simp
        rw [h0]
        by_cases hr0 : r = 0 <;> simp [hr0]
      · have h0 : icmp x (-(q : Int)) ≠ 0 := by
          unfold icmp; split
          · omega
          · split <;> omega
        simp [hx, h0]
/-- the package's way: by a fraction m / 2^k that is worth the float -/
theorem fcmp_frac (x : Int) (B m k t : Nat) (hm : m * 2 ^ t = fman B) (hp : ¬ 0 ≤ fplace B) (hk : k + t = (-fplace B).toNat) :
    icmp (x * ((2 ^ k : Nat) : Int)) (sI (fneg B) m) = fcmp x B := by
  unfold fcmp
  have e : (fplace B).toNat = 0 := by omega
  rw [e, Nat.pow_zero, Nat.mul_one, ← hm, ← hk, Nat.pow_add, sI_mul, Int.natCast_mul, ← Int.mul_assoc, icmp_mul _ _ _ (Nat.two_pow_pos t)]
theorem fcmp_big (x : Int) (B k : Nat) (hk : fplace B = (k : Int)) : icmp x (sI (fneg B) (fman B * 2 ^ k)) = fcmp x B := by
  unfold fcmp
  have e : (fplace B).toNat = k := by omega
  have e2 : (-fplace B).toNat = 0 := by omega
  rw [e, e2]; simp

end Go.Proofs.YtgohhebffcldeaaGreatDoor.Num
