/- Walks: lshVU onto itself, fnorm. Walks: nat's bit and sticky where the low bits are 0; msb64. Walks: rounding of a big.Float that is exact in its precision. Walk: rounding to 53 bits of a big.Float of several words that is exact in them. Walks: big.Float's setExpAndRound, SetInt, where the number is exact. -/
import Derived.Test.YtgohhebffcldeaaGreatDoorDivW2
import Derived.Test.YtgohhebffcldeaaGreatDoorNat5
import Derived.Test.YtgohhebffcldeaaGreatDoorInt5
import Derived.Test.YtgohhebffcldeaaGreatDoorInt2
import Derived.Deep.RegionHeld3
set_option linter.unusedVariables false
set_option linter.unusedSimpArgs false
namespace Go.Proofs.YtgohhebffcldeaaGreatDoor
open Go.RowKit
open Num

theorem lshVU_g_own (g c m V s : Nat) (f : Nat → Value) (w : World) (hrow : Row w g 228 c f) (h0 : 0 < m) (hm : m ≤ 2147483648) (hmc : m ≤ c) (hs0 : 0 < s) (hs : s < 64)
    (hc : ∀ i, i < m → f i = .int .u64 (wd V i)) :
    Calls Tryz.prog 242 #[.slice (some ⟨g, 0, none⟩) m c, .slice (some ⟨g, 0, none⟩) m c, .int .u64 s] w fun e w' => e = .returned (.int .u64 ((wd V (m - 1) / 2 ^ (64 - s) : Nat) : Int)) ∧ (Chg g w w' ∧ w'.heap.size = w.heap.size) ∧
      ∃ f', Row w' g 228 c f' ∧ ∀ i, i < m → f' i = .int .u64 (wd (V * 2 ^ s) i) := by
  have e1 := and63 s hs
  have e2 := and63 (64 - s) (by omega)
  have e3 : ((64 - s : Nat) : Int) = 64 - (s : Int) := by omega
  rw [e3] at e2
  clear e3
  have es : ((s : Int) == 0) = false := by simp; omega
  have em : ((m : Int) == 0) = false := by simp; omega
  have htop : w.cell? ⟨g, m - 1, none⟩ = some (.int .u64 (wd V (m - 1))) := by rw [hrow.cell (by omega), hc _ (by omega)]
  have HC := Lib.hid hc; clear hc
  go_enter Tryz.func242, Tryz.ntmps242
  go_wp2_with fail
  go_loopw [8] (fun i wr => ∃ k' : Nat, ∃ f', k' < m ∧ i = .int .i64 k' ∧ Row wr g 228 c f' ∧ Hid (∀ i, i ≤ k' → f' i = .int .u64 (wd V i)) ∧ Hid (∀ i, k' < i → i < m → f' i = .int .u64 (wd (V * 2 ^ s) i)) ∧ Hid (Chg g w wr ∧ wr.heap.size = w.heap.size)) (fun i _ => (intOf i).toNat)
  case atStart => exact ⟨m - 1, f, by omega, by go_num, hrow, fun i h1 => HC.out i (by omega), fun i h1 h2 => absurd h1 (by omega), ⟨Chg.refl _ _, rfl⟩⟩
  case round =>
    obtain ⟨k', f', hk, rfl, hr, HF, HN, HG⟩ := hrel
    have ck : wr.cell? ⟨g, k', none⟩ = some (.int .u64 (wd V k')) := by rw [hr.cell (by omega), HF.out k' (Nat.le_refl _)]
    have fk := hr.frozen k'
    have HR := Lib.hid hr; clear hr
    by_cases hk0 : 0 < k'
    · have hx2 : wr.cell? ⟨g, k' - 1, none⟩ = some (.int .u64 (wd V (k' - 1))) := by rw [HR.out.cell (by omega), HF.out (k' - 1) (by omega)]
      have hor := shl_or V 0 s (k' - 1) hs0 hs
      rw [show k' - 1 + 1 = k' by omega, Nat.mul_zero, Nat.zero_add, Nat.zero_add] at hor
      go_wp2_with fail
      go_region
      all_goals
        go_wp2
        go_roundw
        case rel =>
          refine ⟨k' - 1, _, by omega, by go_num, (HR.out.set k' _).drew, fun i h1 => ?_, fun i h1 h2 => ?_, ⟨(HG.out.1.set _ _).drew, by have := HG.out.2; simpa [World.setCell] using this⟩⟩
          · show (if _ then _ else _) = _
            rw [if_neg (by omega)]; exact HF.out i (by omega)
          · show (if _ then _ else _) = _
            by_cases e : i = k'
            · subst e; rw [if_pos rfl]
            · rw [if_neg e]; exact HN.out i (by omega) h2
        case measure => simp [intOf]; omega
    · obtain rfl : k' = 0 := by omega
      have hfi := shl_first V 0 s hs
      rw [Nat.mul_zero, Nat.zero_add] at hfi
      go_wp2
      go_ret
      refine ⟨by simp, ⟨HG.out.1.set _ _, by have := HG.out.2; simpa [World.setCell] using this⟩, _, HR.out.set 0 _, fun i hi => ?_⟩
      show (if _ then _ else _) = _
      by_cases e : i = 0
      · subst e; rw [if_pos rfl]
      · rw [if_neg e]; exact HN.out i (by omega) hi

theorem lshVU_own (g c m V s : Nat) (f : Nat → Value) (w : World) (hrow : Row w g 228 c f) (h0 : 0 < m) (hm : m ≤ 2147483648) (hmc : m ≤ c) (hs0 : 0 < s) (hs : s < 64)
    (hc : ∀ i, i < m → f i = .int .u64 (wd V i)) :
    Calls Tryz.prog 221 #[.slice (some ⟨g, 0, none⟩) m c, .slice (some ⟨g, 0, none⟩) m c, .int .u64 s] w fun e w' => e = .returned (.int .u64 ((wd V (m - 1) / 2 ^ (64 - s) : Nat) : Int)) ∧ (Chg g w w' ∧ w'.heap.size = w.heap.size) ∧
      ∃ f', Row w' g 228 c f' ∧ ∀ i, i < m → f' i = .int .u64 (wd (V * 2 ^ s) i) := by
  have H := Lib.hid (lshVU_g_own g c m V s f w hrow h0 hm hmc hs0 hs hc)
  clear hc hrow
  go_enter Tryz.func221, Tryz.ntmps221
  go_wp2_with fail
  refine H.out.mono ?_
  rintro e w' ⟨rfl, h⟩
  have HH := Lib.hid h; clear h
  go_wp2
  go_ret
  exact ⟨rfl, HH.out⟩

/-- shifted until its highest word is full -/
theorem norm_shift {V m b s : Nat} (h1 : 2 ^ (b - 1) ≤ V) (h2 : V < 2 ^ b) (hb : 1 ≤ b) (hN : Nw m V) (h0 : 0 < m) (hs1 : 9223372036854775808 ≤ wd V (m - 1) * 2 ^ s) (hs2 : wd V (m - 1) * 2 ^ s < 18446744073709551616) : s = 64 * m - b ∧ b ≤ 64 * m := by
  have hT : wd V (m - 1) = V / 2 ^ (64 * (m - 1)) := by
    unfold wd
    rw [Nat.mod_eq_of_lt]
    have := hN.1
    rw [show 64 * m = 64 * (m - 1) + 64 by omega, Nat.pow_add] at this
    exact Nat.div_lt_of_lt_mul this
  rw [hT] at hs1 hs2
  obtain ⟨k, hk⟩ : ∃ k, k = 64 * (m - 1) := ⟨_, rfl⟩
  rw [← hk] at hs1 hs2
  obtain ⟨T, hTT⟩ : ∃ T, T = V / 2 ^ k := ⟨_, rfl⟩
  rw [← hTT] at hs1 hs2
  have p63 : (9223372036854775808 : Nat) = 2 ^ 63 := by decide
  have p64 : (18446744073709551616 : Nat) = 2 ^ 64 := by decide
  rw [p63] at hs1
  rw [p64] at hs2
  have hk0 := Nat.two_pow_pos k
  have l1 : T * 2 ^ k ≤ V := by rw [hTT]; exact Nat.div_mul_le_self _ _
  have l2 : V < (T + 1) * 2 ^ k := by
    rw [hTT]
    have := Nat.lt_div_mul_add hk0 (a := V)
    rw [Nat.add_mul, Nat.one_mul]; exact this
  have hs64 : s < 64 := by
    apply Nat.lt_of_not_le
    intro hge
    have hT1 : 1 ≤ T := by
      rcases Nat.eq_zero_or_pos T with q | q
      · rw [q, Nat.zero_mul] at hs1
        exact absurd hs1 (by decide)
      · exact q
    have : 2 ^ 64 ≤ T * 2 ^ s := Nat.le_trans (Nat.pow_le_pow_right (by decide) hge) (Nat.le_mul_of_pos_left _ hT1)
    omega
  have l3 : (T + 1) * 2 ^ s ≤ 2 ^ 64 := by
    have e : 2 ^ 64 = 2 ^ (64 - s) * 2 ^ s := by rw [← Nat.pow_add]; congr 1; omega
    rw [e] at hs2 ⊢
    have := Nat.lt_of_mul_lt_mul_right hs2
    exact Nat.mul_le_mul_right _ this
  have a1 : 2 ^ (63 + k) ≤ V * 2 ^ s := by
    rw [Nat.pow_add]
    calc 2 ^ 63 * 2 ^ k ≤ T * 2 ^ s * 2 ^ k := Nat.mul_le_mul_right _ hs1
      _ = T * 2 ^ k * 2 ^ s := by rw [Nat.mul_right_comm]
      _ ≤ V * 2 ^ s := Nat.mul_le_mul_right _ l1
  have a2 : V * 2 ^ s < 2 ^ (64 + k) := by
    rw [Nat.pow_add]
    calc V * 2 ^ s < (T + 1) * 2 ^ k * 2 ^ s := Nat.mul_lt_mul_of_pos_right l2 (Nat.two_pow_pos _)
      _ = (T + 1) * 2 ^ s * 2 ^ k := by rw [Nat.mul_right_comm]
      _ ≤ 2 ^ 64 * 2 ^ k := Nat.mul_le_mul_right _ l3
  have b1 : 2 ^ (b - 1 + s) ≤ V * 2 ^ s := by rw [Nat.pow_add]; exact Nat.mul_le_mul_right _ h1
  have b2 : V * 2 ^ s < 2 ^ (b + s) := by rw [Nat.pow_add]; exact Nat.mul_lt_mul_of_pos_right h2 (Nat.two_pow_pos _)
  have c1 := (Nat.pow_lt_pow_iff_right (by decide : 1 < 2)).1 (Nat.lt_of_le_of_lt a1 b2)
  have c2 := (Nat.pow_lt_pow_iff_right (by decide : 1 < 2)).1 (Nat.lt_of_le_of_lt b1 a2)
  omega

theorem fnorm_any (g c m V b : Nat) (f : Nat → Value) (w : World) (hrow : Row w g 228 c f) (h0 : 0 < m) (hm : m ≤ 2147483648) (hmc : m ≤ c) (hN : Nw m V) (h1 : 2 ^ (b - 1) ≤ V) (h2 : V < 2 ^ b) (hb : 1 ≤ b)
    (hc : ∀ i, i < m → f i = .int .u64 (wd V i)) :
    Calls Tryz.prog 390 #[.slice (some ⟨g, 0, none⟩) m c] w fun e w' => (∃ k : Int, e = .returned (.int .i64 k)) ∧ (Chg g w w' ∧ w'.heap.size = w.heap.size) ∧
      ∃ f', Row w' g 228 c f' ∧ ∀ i, i < m → f' i = .int .u64 (wd (V * 2 ^ (64 * m - b)) i) := by
  have htop : w.cell? ⟨g, m - 1, none⟩ = some (.int .u64 (wd V (m - 1))) := by rw [hrow.cell (by omega), hc _ (by omega)]
  have hne : wd V (m - 1) ≠ 0 := fun h => by
    have := lt_of_wd_zero (n := m - 1) (by rw [show m - 1 + 1 = m by omega]; exact hN.1) h
    have := hN.2 h0
    omega
  have HNL := Lib.hid (nlz_any (wd V (m - 1)) (by omega) (wd_lt _ _) w)
  have HSH := Lib.hid (fun (s : Nat) (hs1 : 9223372036854775808 ≤ wd V (m - 1) * 2 ^ s) (hs2 : wd V (m - 1) * 2 ^ s < 18446744073709551616) => norm_shift h1 h2 hb hN h0 hs1 hs2)
  have HL := Lib.hid (fun (s : Nat) (hs0 : 0 < s) (hs : s < 64) => lshVU_own g c m V s f w hrow h0 hm hmc hs0 hs hc)
  have HR := Lib.hid hrow; have HC := Lib.hid hc
  clear hrow hc hN h1 h2 hne
  have hm1 : (m : Int) - 1 = ((m - 1 : Nat) : Int) := by omega
  go_enter Tryz.func390, Tryz.ntmps390
  go_wp2_with fail
  refine HNL.out.mono ?_
  rintro e w2 ⟨⟨s, hs63, hs1, hs2, rfl⟩, rfl⟩
  have HE := Lib.hid (HSH.out s hs1 hs2)
  clear hs1 hs2
  by_cases hs0 : s = 0
  · subst hs0
    go_wp2
    go_ret
    refine ⟨⟨0, rfl⟩, ⟨Chg.refl _ _, rfl⟩, f, HR.out, fun i hi => ?_⟩
    rw [← HE.out.1, Nat.pow_zero, Nat.mul_one]
    exact HC.out i hi
  · have hsp : 0 < (s : Int) := by omega
    have HL2 := Lib.hid (HL.out s (by omega) (by omega))
    go_wp2_with fail
    refine HL2.out.mono ?_
    rintro e w3 ⟨rfl, hch, f', hr, hf⟩
    have HH := Lib.hid (And.intro hch (And.intro hr hf))
    clear hch hr hf
    go_wp2
    go_ret
    refine ⟨⟨_, rfl⟩, HH.out.1, f', HH.out.2.1, fun i hi => ?_⟩
    rw [← HE.out.1]
    exact HH.out.2.2 i hi
end Go.Proofs.YtgohhebffcldeaaGreatDoor

set_option linter.unusedVariables false
set_option linter.unusedSimpArgs false
namespace Go.Proofs.YtgohhebffcldeaaGreatDoor
open Go.RowKit
open Num

theorem wd_bit0 (M q t : Nat) (ht : t < 64) (h : M / 2 ^ (64 * q + t) % 2 = 0) : wd M q / 2 ^ t % 2 = 0 := by
  have h1 : (wd M q).testBit t = false := by
    rw [wd_bit, decide_eq_true ht, Bool.true_and]
    rw [Nat.testBit_eq_decide_div_mod_eq, h]; rfl
  rw [Nat.testBit_eq_decide_div_mod_eq] at h1
  simp at h1
  omega
theorem wd_low0 (M q t : Nat) (ht : t < 64) (h : M % 2 ^ (64 * q + t) = 0) : wd M q % 2 ^ t = 0 ∧ ∀ i, i < q → wd M i = 0 := by
  obtain ⟨Y, hY⟩ : ∃ Y, M = Y * 2 ^ (64 * q + t) := ⟨M / 2 ^ (64 * q + t), by have := Nat.div_add_mod M (2 ^ (64 * q + t)); rw [h, Nat.add_zero] at this; rw [Nat.mul_comm]; exact this.symm⟩
  subst hY
  refine ⟨?_, fun i hi => wd_shl_low Y q t i hi⟩
  rw [wd_shl_first Y q t ht]
  rw [show (2 : Nat) ^ 64 = 2 ^ t * 2 ^ (64 - t) by rw [← Nat.pow_add]; congr 1; omega, Nat.mul_comm (wd Y 0), Nat.mul_mod_mul_left, Nat.mul_mod_right]

theorem bit_zero (g c m M r : Nat) (f : Nat → Value) (w : World) (hrow : Row w g 228 c f) (hm : m ≤ 2147483648) (hmc : m ≤ c) (hc : ∀ i, i < m → f i = .int .u64 (wd M i)) (hr : r / 64 < m) (h : M / 2 ^ r % 2 = 0) :
    Calls Tryz.prog 380 #[.slice (some ⟨g, 0, none⟩) m c, .int .u64 r] w fun e w' => e = .returned (.int .u64 0) ∧ w' = w := by
  obtain ⟨q, hq⟩ : ∃ q, q = r / 64 := ⟨_, rfl⟩
  obtain ⟨t, ht⟩ : ∃ t, t = r % 64 := ⟨_, rfl⟩
  have hrq : r = 64 * q + t := by omega
  have ht64 : t < 64 := by omega
  rw [hrq] at h
  have h0 := wd_bit0 M q t ht64 h
  have iq : (r : Int) / 64 = (q : Int) := by omega
  have ir : (r : Int) % 64 = (t : Int) := by omega
  have hqm : q < m := by omega
  have x0 : w.cell? ⟨g, q, none⟩ = some (.int .u64 (wd M q)) := by rw [hrow.cell (by omega), hc q hqm]
  obtain ⟨x, hx⟩ : ∃ x, x = wd M q := ⟨_, rfl⟩
  have hx64 : x < 18446744073709551616 := by rw [hx]; exact wd_lt _ _
  rw [← hx] at x0 h0
  have e1 : bits .and .u64 ((x : Int) / 2 ^ t) 1 = 0 := by
    have hlt : x / 2 ^ t < 18446744073709551616 := Nat.lt_of_le_of_lt (Nat.div_le_self _ _) hx64
    have := bits_and_u64_nat (x / 2 ^ t) 1 hlt (by decide)
    rw [Nat.and_one_is_mod, h0] at this
    rw [show (x : Int) / 2 ^ t = ((x / 2 ^ t : Nat) : Int) by simp]
    exact this
  have hr2 : r ≤ 137438953472 := by omega
  clear hrow hc hr h hq ht h0 hx hrq
  go_enter Tryz.func380, Tryz.ntmps380
  go_wp2
  go_ret
  exact ⟨by first | rfl | simp [e1], rfl⟩

theorem sticky_zero (g c m M r : Nat) (f : Nat → Value) (w : World) (hrow : Row w g 228 c f) (hm : m ≤ 2147483648) (hmc : m ≤ c) (hc2 : c ≤ 2147483651) (hc : ∀ i, i < m → f i = .int .u64 (wd M i)) (hr : r / 64 < m) (h : M % 2 ^ r = 0) :
    Calls Tryz.prog 392 #[.slice (some ⟨g, 0, none⟩) m c, .int .u64 r] w fun e w' => e = .returned (.int .u64 0) ∧ w' = w := by
  obtain ⟨q, hq⟩ : ∃ q, q = r / 64 := ⟨_, rfl⟩
  obtain ⟨t, ht⟩ : ∃ t, t = r % 64 := ⟨_, rfl⟩
  have hrq : r = 64 * q + t := by omega
  have ht64 : t < 64 := by omega
  rw [hrq] at h
  have h0 := wd_low0 M q t ht64 h
  have iq : (r : Int) / 64 = (q : Int) := by omega
  have ir : (r : Int) % 64 = (t : Int) := by omega
  have i3 : 64 - (t : Int) = ((64 - t : Nat) : Int) := by omega
  have hqm : q < m := by omega
  have x0 : w.cell? ⟨g, q, none⟩ = some (.int .u64 (wd M q)) := by rw [hrow.cell (by omega), hc q hqm]
  obtain ⟨x, hx⟩ : ∃ x, x = wd M q := ⟨_, rfl⟩
  have h1 := h0.1
  rw [← hx] at x0 h1
  have e1 : IntKind.u64.wrap ((x : Int) * 2 ^ (64 - t)) = 0 := by
    have : x * 2 ^ (64 - t) % 18446744073709551616 = 0 := by
      obtain ⟨y, hy⟩ : ∃ y, x = y * 2 ^ t := ⟨x / 2 ^ t, by have := Nat.div_add_mod x (2 ^ t); rw [h1, Nat.add_zero] at this; rw [Nat.mul_comm]; exact this.symm⟩
      rw [hy, Nat.mul_assoc, ← Nat.pow_add, show t + (64 - t) = 64 by omega]
      exact Nat.mul_mod_left _ _
    simp only [IntKind.wrap_u64]
    have h2 : ((x : Int) * 2 ^ (64 - t)) = ((x * 2 ^ (64 - t) : Nat) : Int) := by simp
    rw [h2]
    omega
  have HX := Lib.hid (fun (k : Nat) (hk : k < q) => (show w.cell? ⟨g, k, none⟩ = some (.int .u64 0) from by rw [hrow.cell (by omega), hc k (by omega), h0.2 k hk]; rfl))
  have hr2 : r ≤ 137438953472 := by omega
  have hq2 : q ≤ 2147483648 := by omega
  have hqi : (q : Int) ≤ (c : Int) := by omega
  clear hrow hc hr h hq ht h0 hx hrq h1
  go_enter Tryz.func392, Tryz.ntmps392
  go_wp2_with fail
  go_loopw [22] (fun i wr => ∃ k : Nat, k ≤ q ∧ i = .int .i64 k ∧ w = wr) (fun i _ => q - (intOf i).toNat)
  case atStart => exact ⟨0, by omega, by go_num, rfl⟩
  case round =>
    obtain ⟨k, hk, rfl, rfl⟩ := hrel
    by_cases hkq : k < q
    · have xk := HX.out k hkq
      go_wp2
      go_roundw
      case rel => exact ⟨k + 1, by omega, by go_num, by trivial⟩
      case measure => simp [intOf]; omega
    · obtain rfl : k = q := by omega
      go_wp2
      go_ret
      exact ⟨rfl, rfl⟩

theorem msb64_any (g c x : Nat) (w : World) (h : w.cell? ⟨g, 0, none⟩ = some (.int .u64 x)) (hc : 1 ≤ c) (hc2 : c ≤ 2147483651) :
    Calls Tryz.prog 394 #[.slice (some ⟨g, 0, none⟩) 1 c] w fun e w' => e = .returned (.int .u64 x) ∧ w' = w := by
  go_enter Tryz.func394, Tryz.ntmps394
  go_wp2
  go_ret
  exact ⟨rfl, rfl⟩
end Go.Proofs.YtgohhebffcldeaaGreatDoor

set_option linter.unusedVariables false
set_option linter.unusedSimpArgs false
namespace Go.Proofs.YtgohhebffcldeaaGreatDoor
open Go.RowKit
open Num

theorem andNot_mask (x t : Nat) (hx : x < 18446744073709551616) (ht : t ≤ 63) (h : x % 2 ^ t = 0) : bits .andNot .u64 (x : Int) (IntKind.u64.wrap (2 ^ t - 1)) = (x : Int) := by
  have h1 : 1 ≤ 2 ^ t := Nat.one_le_two_pow
  have h2 : 2 ^ t ≤ 2 ^ 63 := Nat.pow_le_pow_right (by omega) ht
  have e63 : (2 : Nat) ^ 63 = 9223372036854775808 := by decide
  rw [e63] at h2
  have e0 : (2 : Int) ^ t = ((2 ^ t : Nat) : Int) := by simp
  have hb : ∀ i, i < t → x.testBit i = false := fun i hi => by
    have : (x % 2 ^ t).testBit i = x.testBit i := by rw [Nat.testBit_mod_two_pow, decide_eq_true hi, Bool.true_and]
    rw [← this, h, Nat.zero_testBit]
  have hP : ∀ i, i < 64 → (2 ^ t - 1).testBit i = decide (i < t) := fun i _ => Nat.testBit_two_pow_sub_one t i
  rw [e0]
  have e2 : IntKind.u64.wrap (((2 ^ t : Nat) : Int) - 1) = ((2 ^ t - 1 : Nat) : Int) := by rw [IntKind.wrap_u64]; omega
  rw [e2]
  have h1' : (BitVec.ofInt 64 (x : Int)).toNat = x := by
    rw [BitVec.ofInt_natCast, BitVec.toNat_ofNat]; exact Nat.mod_eq_of_lt (by omega)
  show IntKind.u64.wrap ((BitVec.ofInt 64 (x : Int) &&& ~~~ (BitVec.ofInt 64 ((2 ^ t - 1 : Nat) : Int))).toNat : Int) = _
  have hv : (BitVec.ofInt 64 (x : Int) &&& ~~~ (BitVec.ofInt 64 ((2 ^ t - 1 : Nat) : Int))) = BitVec.ofInt 64 (x : Int) := by
    apply BitVec.eq_of_getLsbD_eq
    intro i hi
    rw [BitVec.getLsbD_and, BitVec.getLsbD_not, BitVec.ofInt_natCast, BitVec.ofInt_natCast, BitVec.getLsbD_ofNat, BitVec.getLsbD_ofNat, hP i hi]
    by_cases hit : i < t
    · rw [hb i hit]; simp
    · simp [hit, hi]
  rw [hv, h1', IntKind.wrap_u64]
  omega

/-- a big.Float's fields -/
abbrev fltObj (prec ac form : Int) (neg : Bool) (mant : Value) (ex : Int) : Obj := .cells #[.int .u32 prec, .int .u8 0, .int .i8 ac, .int .u8 form, .bool neg, mant, .int .i32 ex] 410
theorem fltRow {w : World} {B : Nat} {prec ac form : Int} {neg : Bool} {mant : Value} {ex : Int} (h : w.heap[B]? = some (fltObj prec ac form neg mant ex)) :
    w.cell? ⟨B, 0, none⟩ = some (.int .u32 prec) ∧ w.cell? ⟨B, 1, none⟩ = some (.int .u8 0) ∧ w.cell? ⟨B, 2, none⟩ = some (.int .i8 ac) ∧ w.cell? ⟨B, 3, none⟩ = some (.int .u8 form) ∧ w.cell? ⟨B, 4, none⟩ = some (.bool neg) ∧ w.cell? ⟨B, 5, none⟩ = some mant ∧ w.cell? ⟨B, 6, none⟩ = some (.int .i32 ex) ∧ (∀ i, w.frozen? ⟨B, i, none⟩ = false) ∧ B < w.heap.size :=
  ⟨(cell_of_row _ _ 0 _ _ (0, 0) h).trans rfl, (cell_of_row _ _ 1 _ _ (0, 0) h).trans rfl, (cell_of_row _ _ 2 _ _ (0, 0) h).trans rfl, (cell_of_row _ _ 3 _ _ (0, 0) h).trans rfl, (cell_of_row _ _ 4 _ _ (0, 0) h).trans rfl, (cell_of_row _ _ 5 _ _ (0, 0) h).trans rfl, (cell_of_row _ _ 6 _ _ (0, 0) h).trans rfl, fun i => by simp [World.frozen?, h], (Array.getElem?_eq_some_iff.1 h).1⟩

set_option maxRecDepth 100000 in
set_option maxHeartbeats 400000 in
theorem round_keep (zb g c m P M B : Nat) (ac ex : Int) (neg : Bool) (f : Nat → Value) (w : World) (hz : w.heap[zb]? = some (fltObj P ac 1 neg (.slice (some ⟨g, 0, none⟩) m c) ex)) (hrow : Row w g 228 c f) (hne : g ≠ zb) (hBz : B ≤ zb) (hBg : B ≤ g)
    (h0 : 0 < m) (hm : m ≤ 1048576) (hmc : m ≤ c) (hc2 : c ≤ 2147483651) (hc : ∀ i, i < m → f i = .int .u64 (wd M i)) (hP : P ≤ 67108864) (hP2 : 64 * (m - 1) < P) (hM : M % 2 ^ (64 * m - P) = 0) :
    Calls Tryz.prog 396 #[.pointer (some ⟨zb, 0, none⟩), .int .u64 0] w fun e w' => e = .returned (.tuple #[]) ∧ w'.heap[zb]? = some (fltObj P 0 1 neg (.slice (some ⟨g, 0, none⟩) m c) ex) ∧ (∃ f', Row w' g 228 c f' ∧ ∀ i, i < m → f' i = .int .u64 (wd M i)) ∧ Below B w w' := by
  obtain ⟨z0, z1, z2, z3, z4, z5, z6, zf, zl⟩ := fltRow hz
  obtain ⟨w1, hw1⟩ : ∃ w1, w1 = w.setCell ⟨zb, 2, none⟩ (.int .i8 0) := ⟨_, rfl⟩
  have hz1 : w1.heap[zb]? = some (fltObj P 0 1 neg (.slice (some ⟨g, 0, none⟩) m c) ex) := by rw [hw1]; exact set1 hz
  have hr1 : Row w1 g 228 c f := by rw [hw1]; exact hrow.far hne _
  have hb1 : Below B w w1 := by rw [hw1]; exact (Below.refl _ _).setCell hBz _
  obtain ⟨y0, y1, y2, y3, y4, y5, y6, yf, yl⟩ := fltRow hz1
  have im : (m : Int) * 64 = ((64 * m : Nat) : Int) := by omega
  have h64 : 64 * m ≤ 67108864 := by omega
  have HW1 := Lib.hid hw1
  by_cases hbig : 64 * m ≤ P
  · have hle : (64 * m : Int) ≤ (P : Int) := by omega
    have hle2 : (m : Int) * 64 ≤ (P : Int) := by omega
    have HF := Lib.hid (And.intro hz1 (And.intro hr1 (And.intro hc hb1)))
    clear hz1 hr1 hc hb1 hz hrow hM hw1 hbig im
    go_enter Tryz.func396, Tryz.ntmps396
    go_wp2_with fail
    rw [← HW1.out]
    go_wp2
    exact bodyPost_ret (results_none rfl _ _ _) rfl ⟨rfl, HF.out.1, ⟨f, HF.out.2.1, HF.out.2.2.1⟩, HF.out.2.2.2⟩
  · obtain ⟨r, hr⟩ : ∃ r, r = 64 * m - P - 1 := ⟨_, rfl⟩
    obtain ⟨t, ht⟩ : ∃ t, t = r + 1 := ⟨_, rfl⟩
    rw [show 64 * m - P = t by omega] at hM
    have ht2 : t ≤ 63 := by omega
    have hr2 : r ≤ 62 := by omega
    have htr : t - 1 = r := by omega
    have hle : ¬ (64 * (m : Int) ≤ (P : Int)) := by omega
    have hlow := wd_low0 M 0 t (by omega) (by rw [Nat.mul_zero, Nat.zero_add]; exact hM)
    have HBT := Lib.hid (bit_zero g c m M (t - 1) f w1 hr1 (by omega) hmc hc (by omega) (by
      obtain ⟨Y, hY⟩ : ∃ Y, M = Y * 2 ^ t := ⟨M / 2 ^ t, by have := Nat.div_add_mod M (2 ^ t); rw [hM, Nat.add_zero] at this; rw [Nat.mul_comm]; exact this.symm⟩
      rw [hY, show 2 ^ t = 2 * 2 ^ (t - 1) by rw [← Nat.pow_succ']; congr 1; omega, ← Nat.mul_assoc, Nat.mul_div_cancel _ (Nat.two_pow_pos _), Nat.mul_mod_left]))
    have HST := Lib.hid (sticky_zero g c m M (t - 1) f w1 hr1 (by omega) hmc hc2 hc (by omega) (by
      obtain ⟨Y, hY⟩ : ∃ Y, M = Y * 2 ^ t := ⟨M / 2 ^ t, by have := Nat.div_add_mod M (2 ^ t); rw [hM, Nat.add_zero] at this; rw [Nat.mul_comm]; exact this.symm⟩
      rw [hY, show 2 ^ t = 2 * 2 ^ (t - 1) by rw [← Nat.pow_succ']; congr 1; omega, ← Nat.mul_assoc]
      exact Nat.mul_mod_left _ _))
    have it1 : 64 * (m : Int) - (P : Int) = (r : Int) + 1 := by omega
    have it3 : (m : Int) * 64 - (P : Int) = (r : Int) + 1 := by omega
    have hle3 : ¬ ((m : Int) * 64 ≤ (P : Int)) := by omega
    rw [htr] at HBT HST
    have in1 : ((P : Int) + 63) / 64 = (m : Int) := by omega
    subst ht
    have hb01 : IntKind.u64.wrap (2 ^ (r + 1)) = ((2 ^ (r + 1) : Nat) : Int) := by
      have h2 : 2 ^ (r + 1) ≤ 2 ^ 63 := Nat.pow_le_pow_right (by omega) ht2
      have e63 : (2 : Nat) ^ 63 = 9223372036854775808 := by decide
      have e0 : (2 : Int) ^ (r + 1) = ((2 ^ (r + 1) : Nat) : Int) := by simp
      rw [e0, IntKind.wrap_u64]; omega
    have hx := hc 0 h0
    have x0 : w1.cell? ⟨g, 0, none⟩ = some (.int .u64 (wd M 0)) := by rw [hr1.cell (by omega), hx]
    have xf := hr1.frozen 0
    obtain ⟨x, hxx⟩ : ∃ x, x = wd M 0 := ⟨_, rfl⟩
    have hx64 : x < 18446744073709551616 := by rw [hxx]; exact wd_lt _ _
    rw [← hxx] at x0
    have han := andNot_mask x (r + 1) hx64 ht2 (by rw [hxx]; exact hlow.1)
    have HF := Lib.hid (And.intro hz1 (And.intro hr1 (And.intro hc hb1)))
    have HX := Lib.hid hxx
    clear hz1 hr1 hc hb1 hz hrow hM hw1 hlow hx hxx hr htr hbig im
    go_enter Tryz.func396, Tryz.ntmps396
    go_wp2_with fail
    rw [← HW1.out]
    go_wp2_with fail
    refine HBT.out.mono ?_
    rintro e w2 ⟨rfl, rfl⟩
    go_wp2_with fail
    refine HST.out.mono ?_
    rintro e w3 ⟨rfl, rfl⟩
    go_wp2_with fail
    go_end0
    refine ⟨rfl, (Below.heap_setCell _ ⟨g, 0, none⟩ _ zb (Ne.symm hne)).trans HF.out.1, ⟨_, HF.out.2.1.set 0 _, fun i hi => ?_⟩, HF.out.2.2.2.setCell hBg _⟩
    show (if _ then _ else _) = _
    by_cases e : i = 0
    · subst e; rw [if_pos rfl, HX.out]
    · rw [if_neg e]; exact HF.out.2.2.1 i hi
end Go.Proofs.YtgohhebffcldeaaGreatDoor

set_option linter.unusedVariables false
set_option linter.unusedSimpArgs false
namespace Go.Proofs.YtgohhebffcldeaaGreatDoor
open Go.RowKit
open Num

set_option maxRecDepth 100000 in
set_option maxHeartbeats 400000 in
theorem round_cut (zb g c m M B : Nat) (ac ex : Int) (neg : Bool) (f : Nat → Value) (w : World) (hz : w.heap[zb]? = some (fltObj 53 ac 1 neg (.slice (some ⟨g, 0, none⟩) m c) ex)) (hrow : Row w g 228 c f) (hne : g ≠ zb) (hBz : B ≤ zb) (hBg : B ≤ g)
    (h0 : 1 < m) (hm : m ≤ 1048576) (hmc : m ≤ c) (hc2 : c ≤ 2147483651) (hc : ∀ i, i < m → f i = .int .u64 (wd M i)) (hM : M % 2 ^ (64 * m - 53) = 0) :
    Calls Tryz.prog 396 #[.pointer (some ⟨zb, 0, none⟩), .int .u64 0] w fun e w' => e = .returned (.tuple #[]) ∧ w'.heap[zb]? = some (fltObj 53 0 1 neg (.slice (some ⟨g, 0, none⟩) 1 c) ex) ∧ w'.cell? ⟨g, 0, none⟩ = some (.int .u64 (wd M (m - 1))) ∧ Below B w w' := by
  obtain ⟨z0, z1, z2, z3, z4, z5, z6, zf, zl⟩ := fltRow hz
  obtain ⟨w1, hw1⟩ : ∃ w1, w1 = w.setCell ⟨zb, 2, none⟩ (.int .i8 0) := ⟨_, rfl⟩
  have hz1 : w1.heap[zb]? = some (fltObj 53 0 1 neg (.slice (some ⟨g, 0, none⟩) m c) ex) := by rw [hw1]; exact set1 hz
  have hr1 : Row w1 g 228 c f := by rw [hw1]; exact hrow.far hne _
  have hb1 : Below B w w1 := by rw [hw1]; exact (Below.refl _ _).setCell hBz _
  obtain ⟨y0, y1, y2, y3, y4, y5, y6, yf, yl⟩ := fltRow hz1
  have h64 : 64 * m ≤ 67108864 := by omega
  have HW1 := Lib.hid hw1
  obtain ⟨r, hr⟩ : ∃ r, r = 64 * m - 54 := ⟨_, rfl⟩
  have hr1' : 64 * m - 53 = r + 1 := by omega
  rw [hr1'] at hM
  have hle : ¬ (64 * (m : Int) ≤ 53) := by omega
  have hle3 : ¬ ((m : Int) * 64 ≤ 53) := by omega
  obtain ⟨Y, hY⟩ : ∃ Y, M = Y * 2 ^ (r + 1) := ⟨M / 2 ^ (r + 1), by have := Nat.div_add_mod M (2 ^ (r + 1)); rw [hM, Nat.add_zero] at this; rw [Nat.mul_comm]; exact this.symm⟩
  have HBT := Lib.hid (bit_zero g c m M r f w1 hr1 (by omega) hmc hc (by omega) (by
    rw [hY, Nat.pow_succ', ← Nat.mul_assoc, Nat.mul_div_cancel _ (Nat.two_pow_pos _), Nat.mul_mod_left]))
  have HST := Lib.hid (sticky_zero g c m M r f w1 hr1 (by omega) hmc hc2 hc (by omega) (by
    rw [hY, Nat.pow_succ', ← Nat.mul_assoc]
    exact Nat.mul_mod_left _ _))
  have hlow := wd_low0 M (m - 1) 11 (by omega) (by rw [show 64 * (m - 1) + 11 = r + 1 by omega]; exact hM)
  have it1 : 64 * (m : Int) - 53 = (r : Int) + 1 := by omega
  have it3 : (m : Int) * 64 - 53 = (r : Int) + 1 := by omega
  have hm1 : 1 < (m : Int) := by omega
  obtain ⟨k, hk⟩ : ∃ k, k = m - 1 := ⟨_, rfl⟩
  have hm2 : (m : Int) - 1 = (k : Int) := by omega
  have hk1 : (k : Int) ≤ (m : Int) := by omega
  have hk2 : (k : Int) ≤ (c : Int) := by omega
  have hk3 : (m : Int) ≤ (c : Int) := by omega
  have hk4 : m - k = 1 := by omega
  have hk5 : IntKind.u32.wrap (k : Int) = (k : Int) := by simp only [IntKind.wrap_u32]; omega
  have hk6 : ¬ (c = k) := by omega
  have hr2 : r ≤ 67108864 := by omega
  have xl : w1.cell? ⟨g, m - 1, none⟩ = some (.int .u64 (wd M (m - 1))) := by rw [hr1.cell (by omega), hc (m - 1) (by omega)]
  obtain ⟨x, hxx⟩ : ∃ x, x = wd M (m - 1) := ⟨_, rfl⟩
  have hx64 : x < 18446744073709551616 := by rw [hxx]; exact wd_lt _ _
  rw [← hxx, ← hk] at xl
  have han := andNot_mask x 11 hx64 (by omega) (by rw [hxx]; exact hlow.1)
  rw [show IntKind.u64.wrap ((2 : Int) ^ 11 - 1) = 2047 by decide] at han
  have HF := Lib.hid (And.intro hz1 (And.intro hr1 (And.intro hc hb1)))
  have HX := Lib.hid hxx
  have HK := Lib.hid hk
  clear hz1 hr1 hc hb1 hz hrow hM hw1 hlow hxx hr hr1' hY hk
  go_enter Tryz.func396, Tryz.ntmps396
  go_wp2_with fail
  rw [← HW1.out]
  go_wp2_with fail
  refine HBT.out.mono ?_
  rintro e w2 ⟨rfl, rfl⟩
  go_wp2_with fail
  refine HST.out.mono ?_
  rintro e w3 ⟨rfl, rfl⟩
  go_wp2_with fail
  go_still_tail 12, (by kernel_rfl)
  change wpList _ _ _ _ _ w3.drew
  obtain ⟨wd3, hwd3⟩ : ∃ wd3, wd3 = w3.drew := ⟨_, rfl⟩
  rw [← hwd3]
  have hrd : Row wd3 g 228 c f := by rw [hwd3]; exact HF.out.2.1.drew
  have hzd : wd3.heap[zb]? = some (fltObj 53 0 1 neg (.slice (some ⟨g, 0, none⟩) m c) ex) := by rw [hwd3]; exact HF.out.1
  have hbd : Below B w wd3 := by rw [hwd3]; exact HF.out.2.2.2.drew
  have xd : wd3.cell? ⟨g, k, none⟩ = some (.int .u64 x) := by rw [hwd3]; exact xl
  clear hwd3
  refine wpList_copy_fn rfl (.tmp 82) (.tmp 90) 140 140 rfl 228 natUnder natSize g 0 m c 1 (c - k) (some ⟨g, k, none⟩) rfl ?_ 228 c f (fun i => .int .u64 x) hrd 1 (by show 1 = min 1 m; omega) (fun _ => ⟨_, rfl, fun j hj => by have hj0 : j = 0 := (by omega); subst hj0; rw [add_at, Nat.add_zero]; exact xd⟩) (fun _ _ => rfl) (by omega) ?_
  · rfl
  · intro w4 hr4 hch4
    have hz4 : w4.heap[zb]? = some (fltObj 53 0 1 neg (.slice (some ⟨g, 0, none⟩) m c) ex) := (hch4.out.1.block zb (Array.getElem?_eq_some_iff.1 hzd).1 (Ne.symm hne)).trans hzd
    obtain ⟨q0, q1, q2, q3, q4, q5, q6, qf, ql⟩ := fltRow hz4
    have xg : w4.cell? ⟨g, 0, none⟩ = some (.int .u64 x) := by have := hr4.out.cell (i := 0) (by omega); simpa using this
    have xgf := hr4.out.frozen 0
    have hb4 : Below B w w4 := hbd.trans ⟨hch4.out.1.os, hch4.out.1.tape, hch4.out.1.output, hch4.out.1.size, fun i hi => hch4.out.1.block i (Nat.lt_of_lt_of_le hi (by have := hbd.size; have := HF.out.2.1.lt; omega)) (by omega)⟩
    have HF4 := Lib.hid (And.intro hz4 (And.intro hr4.out hb4))
    clear hz4 hr4 hch4 hb4 hrd hzd hbd xd
    go_wp2_with fail
    go_end0
    have hr5 := (HF4.out.2.1.far (p := ⟨zb, 5, none⟩) hne (.slice (some ⟨g, 0, none⟩) 1 c)).set 0 (.int .u64 x)
    refine ⟨rfl, (Below.heap_setCell _ ⟨g, 0, none⟩ _ zb (Ne.symm hne)).trans (set1 HF4.out.1), ?_, (HF4.out.2.2.setCell hBz _).setCell hBg _⟩
    have h6 := hr5.cell (i := 0) (by omega)
    rw [if_pos rfl] at h6
    rw [← HX.out]
    exact h6
end Go.Proofs.YtgohhebffcldeaaGreatDoor

set_option linter.unusedVariables false
set_option linter.unusedSimpArgs false
namespace Go.Proofs.YtgohhebffcldeaaGreatDoor
open Go.RowKit
open Num

theorem setExp_keep (zb g c m P M B e : Nat) (ac ex : Int) (fm : Int) (neg : Bool) (f : Nat → Value) (w : World) (hz : w.heap[zb]? = some (fltObj P ac fm neg (.slice (some ⟨g, 0, none⟩) m c) ex)) (hrow : Row w g 228 c f) (hne : g ≠ zb) (hBz : B ≤ zb) (hBg : B ≤ g)
    (h0 : 0 < m) (hm : m ≤ 1048576) (hmc : m ≤ c) (hc2 : c ≤ 2147483651) (hc : ∀ i, i < m → f i = .int .u64 (wd M i)) (hP : P ≤ 67108864) (hP2 : 64 * (m - 1) < P) (hM : M % 2 ^ (64 * m - P) = 0) (he : e ≤ 67108864) :
    Calls Tryz.prog 391 #[.pointer (some ⟨zb, 0, none⟩), .int .i64 e, .int .u64 0] w fun r w' => r = .returned (.tuple #[]) ∧ w'.heap[zb]? = some (fltObj P 0 1 neg (.slice (some ⟨g, 0, none⟩) m c) e) ∧ (∃ f', Row w' g 228 c f' ∧ ∀ i, i < m → f' i = .int .u64 (wd M i)) ∧ Below B w w' := by
  obtain ⟨z0, z1, z2, z3, z4, z5, z6, zf, zl⟩ := fltRow hz
  obtain ⟨w1, hw1⟩ : ∃ w1, w1 = (w.setCell ⟨zb, 3, none⟩ (.int .u8 1)).setCell ⟨zb, 6, none⟩ (.int .i32 e) := ⟨_, rfl⟩
  have hz1 : w1.heap[zb]? = some (fltObj P ac 1 neg (.slice (some ⟨g, 0, none⟩) m c) e) := by rw [hw1]; exact set1 (set1 hz)
  have hr1 : Row w1 g 228 c f := by rw [hw1]; exact (hrow.far hne _).far hne _
  have hb1 : Below B w w1 := by rw [hw1]; exact ((Below.refl _ _).setCell hBz _).setCell hBz _
  have HR := Lib.hid (round_keep zb g c m P M B ac e neg f w1 hz1 hr1 hne hBz hBg h0 hm hmc hc2 hc hP hP2 hM)
  have HW1 := Lib.hid hw1; have HB1 := Lib.hid hb1
  clear hz1 hr1 hb1 hz hrow hc hM hw1 hP2
  have hw : IntKind.i32.wrap (e : Int) = (e : Int) := by simp only [IntKind.wrap_i32]; omega
  go_enter Tryz.func391, Tryz.ntmps391
  go_wp2_with fail
  rw [← HW1.out]
  refine HR.out.mono ?_
  rintro r w2 ⟨rfl, h1, h2, h3⟩
  have HH := Lib.hid (And.intro h1 (And.intro h2 h3))
  clear h1 h2 h3
  go_wp2_with fail
  go_end0
  exact ⟨rfl, HH.out.1, HH.out.2.1, HB1.out.trans (HH.out.2.2.mono (Nat.le_refl _))⟩
end Go.Proofs.YtgohhebffcldeaaGreatDoor
