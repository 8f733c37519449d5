/- The plain law of multiplication digit by digit. No program in sight. -/
import Derived.Test.YtgohhebffcldeaaGreatDoorNum
set_option linter.unusedVariables false
namespace Go.Proofs.YtgohhebffcldeaaGreatDoor
namespace Num

theorem dg_add_high (x z q j : Nat) (h : j < q) : dg (x + 2 ^ (8 * q) * z) j = dg x j := by
  unfold dg
  have e : 2 ^ (8 * q) = 2 ^ (8 * j) * (2 ^ 8 * 2 ^ (8 * (q - j - 1))) := by
    rw [← Nat.pow_add, ← Nat.pow_add]; congr 1; omega
  rw [e, Nat.mul_assoc, Nat.add_mul_div_left _ _ (Nat.two_pow_pos _), Nat.mul_assoc (2 ^ 8), Nat.add_mul_mod_self_left]
theorem mod_dg (U k : Nat) : U % 2 ^ (8 * (k + 1)) = U % 2 ^ (8 * k) + 2 ^ (8 * k) * dg U k := by
  unfold dg
  rw [show 8 * (k + 1) = 8 * k + 8 by omega, Nat.pow_add, Nat.mod_mul]
theorem div_dg (x q : Nat) : x / 2 ^ (8 * q) = dg x q + 256 * (x / 2 ^ (8 * (q + 1))) := by
  unfold dg
  rw [show 8 * (q + 1) = 8 * q + 8 by omega, Nat.pow_add, ← Nat.div_div_eq_div_mul]
  have := Nat.mod_add_div (x / 2 ^ (8 * q)) (2 ^ 8)
  omega

/-- the total after k rounds of the inner loop in round i of the outer one -/
def mulT (V U i k : Nat) : Nat := U * (V % 2 ^ (8 * i)) + 2 ^ (8 * i) * (dg V i * (U % 2 ^ (8 * k)))
theorem mulT_zero (V U i : Nat) : mulT V U i 0 = U * (V % 2 ^ (8 * i)) := by simp [mulT, Nat.mod_one]
theorem mulT_succ (V U i k : Nat) : mulT V U i (k + 1) = mulT V U i k + 2 ^ (8 * (i + k)) * (dg V i * dg U k) := by
  unfold mulT
  rw [mod_dg, Nat.mul_add, Nat.mul_add, ← Nat.add_assoc]
  congr 1
  rw [show 8 * (i + k) = 8 * i + 8 * k by omega, Nat.pow_add]
  rw [Nat.mul_assoc, Nat.mul_left_comm (dg V i)]
theorem mulT_full (V U i k m : Nat) (hU : U < 2 ^ (8 * m)) (hk : m ≤ k) : mulT V U i k = U * (V % 2 ^ (8 * (i + 1))) := by
  have : U % 2 ^ (8 * k) = U := Nat.mod_eq_of_lt (Nat.lt_of_lt_of_le hU (Nat.pow_le_pow_right (by omega) (by omega)))
  unfold mulT
  rw [this, mod_dg V i, Nat.mul_add]
  congr 1
  rw [Nat.mul_comm U, Nat.mul_assoc]

/-- the digits and the carry after k rounds -/
structure MulSt (V U i k carry N : Nat) (D : Nat → Nat) : Prop where
  low : ∀ j, j < i + k → D j = dg (mulT V U i k) j
  high : ∀ j, i + k ≤ j → j < N → D j = dg (U * (V % 2 ^ (8 * i))) j
  sum : mulT V U i k / 2 ^ (8 * (i + k)) = U * (V % 2 ^ (8 * i)) / 2 ^ (8 * (i + k)) + carry
  small : carry < 256

theorem MulSt.start {V U i N : Nat} {D : Nat → Nat} (h : ∀ j, j < N → D j = dg (U * (V % 2 ^ (8 * i))) j) (hiN : i ≤ N) : MulSt V U i 0 0 N D :=
  ⟨fun j hj => by rw [mulT_zero]; exact h j (by omega), fun j _ hj => h j hj, by rw [mulT_zero]; rfl, by omega⟩

theorem MulSt.step {V U i k c N s : Nat} {D : Nat → Nat} (h : MulSt V U i k c N D) (hN : i + k < N) (hs : s = D (i + k) + dg V i * dg U k + c) :
    MulSt V U i (k + 1) (s / 256) N (fun j => if j = i + k then s % 256 else D j) := by
  have hD := h.high (i + k) (Nat.le_refl _) hN
  have hq : mulT V U i (k + 1) / 2 ^ (8 * (i + k)) = U * (V % 2 ^ (8 * i)) / 2 ^ (8 * (i + k)) + c + dg V i * dg U k := by
    rw [mulT_succ, Nat.add_mul_div_left _ _ (Nat.two_pow_pos _), h.sum]
  have hS := div_dg (U * (V % 2 ^ (8 * i))) (i + k)
  have hT := div_dg (mulT V U i (k + 1)) (i + k)
  have hlt := dg_lt (mulT V U i (k + 1)) (i + k)
  have hlt2 := dg_lt (U * (V % 2 ^ (8 * i))) (i + k)
  have hv := dg_lt V i
  have hu := dg_lt U k
  have hvu : dg V i * dg U k ≤ 255 * 255 := Nat.mul_le_mul (by omega) (by omega)
  have hc := h.small
  rw [show i + k + 1 = i + (k + 1) by omega] at hS hT
  generalize dg V i * dg U k = z at *
  refine ⟨fun j hj => ?_, fun j h1 h2 => ?_, ?_, by omega⟩
  · show (if _ then _ else _) = _
    by_cases e : j = i + k
    · rw [if_pos e, e]; omega
    · rw [if_neg e, h.low j (by omega), mulT_succ]
      exact (dg_add_high _ _ _ _ (by omega)).symm
  · show (if _ then _ else _) = _
    rw [if_neg (by omega)]; exact h.high j (by omega) h2
  · omega

theorem MulSt.done {V U i k m N : Nat} {D : Nat → Nat} (h : MulSt V U i k 0 N D) (hU : U < 2 ^ (8 * m)) (hk : m ≤ k) : ∀ j, j < N → D j = dg (U * (V % 2 ^ (8 * (i + 1)))) j := by
  intro j hj
  rw [← mulT_full V U i k m hU hk]
  by_cases hjk : j < i + k
  · exact h.low j hjk
  · rw [h.high j (by omega) hj]
    unfold dg
    have e : ∀ x, x / 2 ^ (8 * j) = x / 2 ^ (8 * (i + k)) / 2 ^ (8 * (j - (i + k))) := fun x => by
      rw [Nat.div_div_eq_div_mul, ← Nat.pow_add]; congr 2; omega
    rw [e, e (mulT V U i k), h.sum, Nat.add_zero]
theorem MulSt.last {V U i m c N : Nat} {D : Nat → Nat} (h : MulSt V U i m c N D) (hU : U < 2 ^ (8 * m)) (hN : i + m < N) : D (i + m) = 0 := by
  rw [h.high _ (Nat.le_refl _) hN]
  unfold dg
  rw [Nat.div_eq_of_lt]
  · rw [show 8 * (i + m) = 8 * m + 8 * i by omega, Nat.pow_add]
    exact Nat.mul_lt_mul_of_lt_of_le hU (Nat.le_of_lt (Nat.mod_lt _ (Nat.two_pow_pos _))) (Nat.two_pow_pos _)

end Num
end Go.Proofs.YtgohhebffcldeaaGreatDoor
