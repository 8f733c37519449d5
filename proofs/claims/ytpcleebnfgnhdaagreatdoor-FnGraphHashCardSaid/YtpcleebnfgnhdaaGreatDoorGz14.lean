import Derived.Test.YtpcleebnfgnhdaaGreatDoorGz13
import Derived.Deep.CutBlock
import Derived.Deep.CutRange
/- Walks: division of two words by one: nlz, bitsDiv64, bitsDiv, reciprocalWord, divWW. Walks: bitsDiv, reciprocalWord, divWW. -/
set_option linter.unusedVariables false
set_option linter.unusedSimpArgs false
namespace Go.Proofs.YtpcleebnfgnhdaaGreatDoor
open Go.RowKit
open Num

theorem ret_int2 {k l : IntKind} {a b c d : Int} (h : a = b) (h2 : c = d) : Ending.returned (.tuple #[.int k a, .int l c]) = .returned (.tuple #[.int k b, .int l d]) := by rw [h, h2]
theorem bitLen_of {x b : Nat} (hx0 : x ≠ 0) (hx : x < 2 ^ 64) (h1 : 2 ^ (b - 1) ≤ x) (h2 : x < 2 ^ b) (hb : 1 ≤ b) : Lib.bitLen x = b := by
  obtain ⟨a1, a2, a3⟩ := Lib.bitLenAux_bounds 64 x hx hx0
  exact bits_uniq a2 a3 h1 h2 a1 hb

/-- a word's leading zeros: shifted by them its top bit is 1 -/
theorem nlz_any (x : Nat) (h0 : 0 < x) (hx : x < 18446744073709551616) (w : World) :
    Calls Tryz.prog 228 #[.int .u64 x] w fun e w' => (∃ s : Nat, s ≤ 63 ∧ 9223372036854775808 ≤ x * 2 ^ s ∧ x * 2 ^ s < 18446744073709551616 ∧ e = .returned (.int .u64 s)) ∧ w' = w := by
  have hx64 : x < 2 ^ 64 := hx
  obtain ⟨a1, a2, a3⟩ := Lib.bitLenAux_bounds 64 x hx64 (by omega)
  have hb64 : Lib.bitLenAux 64 x ≤ 64 := Lib.bitLenAux_le 64 x 64 hx64
  have hbl : Lib.bitLen x = Lib.bitLenAux 64 x := rfl
  have HL := Tryz.bits_LeadingZeros (x : Int) w (by omega) (by omega)
  rw [show ((x : Int).toNat) = x by omega, hbl] at HL
  generalize Lib.bitLenAux 64 x = b at *
  have e1 : (64 : Int) - (b : Int) = ((64 - b : Nat) : Int) := by omega
  rw [e1] at HL
  have h1 : 9223372036854775808 ≤ x * 2 ^ (64 - b) := by
    have := Nat.mul_le_mul_right (2 ^ (64 - b)) a2
    rw [← Nat.pow_add, show b - 1 + (64 - b) = 63 by omega] at this
    exact this
  have h2 : x * 2 ^ (64 - b) < 18446744073709551616 := by
    have := Nat.mul_lt_mul_of_pos_right a3 (Nat.two_pow_pos (64 - b))
    rw [← Nat.pow_add, show b + (64 - b) = 64 by omega] at this
    exact this
  have H := Lib.hid (And.intro h1 h2)
  have HLL := Lib.hid HL
  obtain ⟨s, hs⟩ : ∃ s, s = 64 - b := ⟨_, rfl⟩
  have hs63 : s ≤ 63 := by omega
  rw [← hs] at H HLL
  clear HL e1 h1 h2 a2 a3 hbl hx64 hs
  go_enter Tryz.func228, Tryz.ntmps228
  go_wp2_with fail
  refine HLL.out.mono ?_
  rintro e w' ⟨rfl, rfl⟩
  go_wp2
  go_ret
  exact ⟨⟨s, hs63, H.out.1, H.out.2, rfl⟩, rfl⟩

theorem bitsDiv64_zero (lo y : Nat) (hy : 9223372036854775808 ≤ y) (hy2 : y < 18446744073709551616) (hlo : lo < 18446744073709551616) (w : World) :
    Calls Tryz.prog 252 #[.int .u64 0, .int .u64 lo, .int .u64 y] w fun e w' => (∃ r : Int, e = .returned (.tuple #[.int .u64 ((lo / y : Nat) : Int), .int .u64 r])) ∧ ∃ k, w' = w.drewN k := by
  have h0 : ((y : Int) == 0) = false := by simp; omega
  have h1 : ¬ ((y : Int) ≤ 0) := by omega
  go_enter Tryz.func252, Tryz.ntmps252
  go_wp2_with fail
  go_quiet (fail)
  go_wp2
  go_ret2
  have hq : IntKind.u64.wrap ((lo : Int) / (y : Int)) = ((lo / y : Nat) : Int) := by
    rw [← Int.natCast_ediv]
    have := Nat.div_le_self lo y
    exact Mul64.wrapN _ (by omega)
  exact ⟨⟨(lo : Int) % (y : Int), ret_int2 (hq.trans rfl) rfl⟩, _, rfl⟩

set_option maxRecDepth 100000 in
set_option maxHeartbeats 2000000 in
theorem bitsDiv64_top (hi lo y : Nat) (hy : 9223372036854775808 ≤ y) (hy2 : y < 18446744073709551616) (hlo : lo < 18446744073709551616) (hh : hi < y) (hp : 0 < hi) (w : World) :
    Calls Tryz.prog 252 #[.int .u64 hi, .int .u64 lo, .int .u64 y] w fun e w' => (∃ r : Int, e = .returned (.tuple #[.int .u64 (((hi * 18446744073709551616 + lo) / y : Nat) : Int), .int .u64 r])) ∧ ∃ k, w' = w.drewN k := by
  have h0 : ((y : Int) == 0) = false := by simp; omega
  have h1 : ¬ ((y : Int) ≤ (hi : Int)) := by omega
  have h2 : ((hi : Int) == 0) = false := by simp; omega
  have hbl : Lib.bitLen y = 64 := bitLen_of (by omega) (by show y < 18446744073709551616; omega) (by show 9223372036854775808 ≤ y; omega) (by show y < 18446744073709551616; omega) (by omega)
  have HL := Tryz.bits_LeadingZeros64 (y : Int) w (by omega) (by omega)
  rw [show ((y : Int).toNat) = y by omega, hbl] at HL
  have HLL := Lib.hid HL
  obtain ⟨a, ha⟩ : ∃ a, a = y / 4294967296 := ⟨_, rfl⟩
  obtain ⟨b, hb⟩ : ∃ b, b = y % 4294967296 := ⟨_, rfl⟩
  obtain ⟨d1, hd1⟩ : ∃ d1, d1 = lo / 4294967296 := ⟨_, rfl⟩
  obtain ⟨d0, hd0⟩ : ∃ d0, d0 = lo % 4294967296 := ⟨_, rfl⟩
  have e1 : (y : Int) / 4294967296 = (a : Int) := by omega
  have e2 : bits .and .u64 (y : Int) 4294967295 = (b : Int) := by rw [Mul64.maskN y hy2, hb]
  have e3 : (lo : Int) / 4294967296 = (d1 : Int) := by omega
  have e4 : bits .and .u64 (lo : Int) 4294967295 = (d0 : Int) := by rw [Mul64.maskN lo hlo, hd0]
  have e5 : bits .or .u64 (hi : Int) ((lo : Int) / 18446744073709551616) = (hi : Int) := by
    have := u64_or_nat hi 0 (by omega) (by omega)
    rw [show (lo : Int) / 18446744073709551616 = 0 by omega]
    simpa using this
  obtain ⟨q0, hq0⟩ : ∃ q0, q0 = hi / a := ⟨_, rfl⟩
  obtain ⟨r0, hr0⟩ : ∃ r0, r0 = hi % a := ⟨_, rfl⟩
  have hqr : q0 * a + r0 = hi := by rw [hq0, hr0, Nat.mul_comm]; exact Nat.div_add_mod hi a
  have hr0l : r0 < a := by rw [hr0]; exact Nat.mod_lt _ (by omega)
  have hq0l : q0 ≤ hi := by rw [hq0]; exact Nat.div_le_self _ _
  have e6 : IntKind.u64.wrap ((hi : Int).tdiv (a : Int)) = (q0 : Int) := by
    rw [hq0, Int.tdiv_eq_ediv_of_nonneg (by omega), ← Int.natCast_ediv]
    exact Mul64.wrapN _ (by rw [← hq0]; omega)
  have e6b : IntKind.u64.wrap ((hi : Int) / (a : Int)) = (q0 : Int) := by
    rw [hq0, ← Int.natCast_ediv]
    exact Mul64.wrapN _ (by rw [← hq0]; omega)
  have e7 : IntKind.u64.wrap ((hi : Int) - IntKind.u64.wrap ((q0 : Int) * (a : Int))) = (r0 : Int) := by
    rw [← Int.natCast_mul, Mul64.wrapN (q0 * a) (by omega), show (hi : Int) - ((q0 * a : Nat) : Int) = (r0 : Int) by omega]
    exact Mul64.wrapN _ (by omega)
  have hY : y = a * 4294967296 + b := by omega
  have HY := Lib.hid hY
  have ha1 : 2147483648 ≤ a := by omega
  have ha2 : a < 4294967296 := by omega
  have hb1 : b < 4294967296 := by omega
  have hd11 : d1 < 4294967296 := by omega
  have hd01 : d0 < 4294967296 := by omega
  have HLO := Lib.hid (show lo = d1 * 4294967296 + d0 by omega)
  have ha0 : ((a : Int) == 0) = false := by simp; omega
  have HI := Lib.hid (And.intro hqr (hq0 ▸ (half_init (d := d1) hY (by omega) hd11).2 : hq hi d1 y ≤ q0))
  obtain ⟨Q, hQ⟩ : ∃ Q, Q = hq hi d1 y := ⟨_, rfl⟩
  have HGT := Lib.hid (fun q r h1 h2 => hQ ▸ half_gt (d := d1) (q := q) (r := r) hY hd11 hh h1 h2 : ∀ q r : Nat, q * a + r = hi → (4294967296 ≤ q ∨ 4294967296 * r + d1 < q * b) → Q < q)
  have HLE := Lib.hid (fun q r h1 h2 => hQ ▸ half_le (d := d1) (q := q) (r := r) hY hh h1 h2 : ∀ q r : Nat, q * a + r = hi → q * b ≤ 4294967296 * r + d1 → q ≤ Q)
  have HBR := Lib.hid (fun q r h1 h2 => hQ ▸ half_break (d := d1) (q := q) (r := r) hY hb1 hh h1 h2 : ∀ q r : Nat, q * a + r = hi → 4294967296 ≤ r → q ≤ Q)
  have hQl : Q < 4294967296 := by rw [hQ]; exact half_lt hd11 hh
  rw [← hQ] at HI
  have HQ := Lib.hid hQ
  have HYY := Lib.hid (And.intro hY (half_rem (d := d1) hh))
  rw [← hQ] at HYY
  clear hY ha hb hd1 hd0 HL hbl hq0 hr0 hqr hQ
  go_enter Tryz.func252, Tryz.ntmps252
  go_wp2_with fail
  refine HLL.out.mono ?_
  rintro e w' ⟨rfl, rfl⟩
  go_upto_block 0 with fail
  clear e1 e2 e3 e4 e5 e6 e6b e7
  go_cut [15] from 16 to 85 (fun q wx => q = .int .u64 Q ∧ wx = w')
  case first =>
    go_wp2_with fail
    go_loop [15, 16] (fun q r => ∃ qn rn : Nat, q = .int .u64 qn ∧ r = .int .u64 rn ∧ rn < 4294967296 ∧ Hid (qn * a + rn = hi ∧ Q ≤ qn)) (fun q _ => (intOf q).toNat)
    case atStart => exact ⟨q0, r0, rfl, rfl, by omega, HI.out⟩
    case round =>
      obtain ⟨q, r, rfl, rfl, hr, HR⟩ := hrel
      have hqh : q ≤ hi := by
        have h := HR.out.1
        have : q * 1 ≤ q * a := Nat.mul_le_mul_left _ (by omega)
        omega
      by_cases hge : 4294967296 ≤ q
      · have hgt := HGT.out q r HR.out.1 (.inl hge)
        have hq1 : (4294967296 : Int) ≤ (q : Int) := by omega
        have e1 : (q - 1) * a + (r + a) = hi := by
          have h := HR.out.1
          have : (q - 1 + 1) * a = q * a := by rw [Nat.sub_add_cancel (by omega)]
          rw [Nat.add_mul, Nat.one_mul] at this
          omega
        have E1 := Lib.hid (And.intro e1 (show Q ≤ q - 1 by omega))
        clear e1 hgt
        by_cases hbr : 4294967296 ≤ r + a
        · have hb2 : (4294967296 : Int) ≤ (r : Int) + (a : Int) := by omega
          go_wp2_with fail
          go_meet
          have e2 := HBR.out (q - 1) (r + a) E1.out.1 hbr
          have e3 := E1.out.2
          exact ⟨by rw [show Q = q - 1 by omega]; congr 1; omega, rfl⟩
        · have hb2 : decide ((4294967296 : Int) ≤ (r : Int) + (a : Int)) = false := by simp; omega
          go_wp2
          go_round
          case rel => exact ⟨q - 1, r + a, by congr 1; omega, by go_num, by omega, E1.out⟩
          case measure => simp [intOf]; omega
      · have hq1 : (q : Int) < 4294967296 := by omega
        have hP : q * b ≤ 4294967295 * 4294967295 := Nat.mul_le_mul (by omega) (by omega)
        obtain ⟨P, hPe⟩ : ∃ P, P = q * b := ⟨_, rfl⟩
        have ep : IntKind.u64.wrap ((q : Int) * (b : Int)) = (P : Int) := by
          rw [hPe, ← Int.natCast_mul]; exact Mul64.wrapN _ (by omega)
        by_cases hgt0 : 4294967296 * r + d1 < q * b
        · have hgt := HGT.out q r HR.out.1 (.inr hgt0)
          have e1 : (q - 1) * a + (r + a) = hi := by
            have h := HR.out.1
            have : (q - 1 + 1) * a = q * a := by rw [Nat.sub_add_cancel (by omega)]
            rw [Nat.add_mul, Nat.one_mul] at this
            omega
          have E1 := Lib.hid (And.intro e1 (show Q ≤ q - 1 by omega))
          have hgt2 : 4294967296 * (r : Int) + (d1 : Int) < (P : Int) := by rw [hPe]; omega
          have hq0 : (1 : Int) ≤ (q : Int) := by omega
          clear e1 hgt hPe hgt0 hP
          by_cases hbr : 4294967296 ≤ r + a
          · have hb2 : (4294967296 : Int) ≤ (r : Int) + (a : Int) := by omega
            go_wp2_with fail
            go_meet
            have e2 := HBR.out (q - 1) (r + a) E1.out.1 hbr
            have e3 := E1.out.2
            exact ⟨by rw [show Q = q - 1 by omega]; congr 1; omega, rfl⟩
          · have hb2 : decide ((4294967296 : Int) ≤ (r : Int) + (a : Int)) = false := by simp; omega
            go_wp2
            go_round
            case rel => exact ⟨q - 1, r + a, by congr 1; omega, by go_num, by omega, E1.out⟩
            case measure => simp [intOf]; omega
        · have hle := HLE.out q r HR.out.1 (by omega)
          have e3 := HR.out.2
          obtain rfl : q = Q := by omega
          have hgt2 : decide (4294967296 * (r : Int) + (d1 : Int) < (P : Int)) = false := by rw [hPe]; simp only [decide_eq_false_iff_not]; omega
          have hq1d : decide ((4294967296 : Int) ≤ (q : Int)) = false := by simp; omega
          clear hPe hgt0 hP hle e3 hq1
          go_wp2_with fail
          go_meet
          exact ⟨rfl, rfl⟩
  case rest =>
    obtain ⟨rfl, rfl⟩ := hcut
    obtain ⟨hY, hRy, hhd⟩ := HYY.out
    obtain ⟨R, hR⟩ : ∃ R, R = hr hi d1 y := ⟨_, rfl⟩
    rw [← hR] at hRy hhd
    have e8 : IntKind.u64.wrap (IntKind.u64.wrap (IntKind.u64.wrap ((hi : Int) * 4294967296) + (d1 : Int)) - IntKind.u64.wrap ((Q : Int) * (y : Int))) = (R : Int) := by
      have h2 : (hi : Int) * 4294967296 + (d1 : Int) = (Q : Int) * (y : Int) + (R : Int) := by
        rw [← Int.natCast_mul]; omega
      generalize (Q : Int) * (y : Int) = P at *
      simp only [IntKind.wrap_u64]
      omega
    obtain ⟨q0, hq0⟩ : ∃ q0, q0 = R / a := ⟨_, rfl⟩
    obtain ⟨r0, hr0⟩ : ∃ r0, r0 = R % a := ⟨_, rfl⟩
    have hqr2 : q0 * a + r0 = R := by rw [hq0, hr0, Nat.mul_comm]; exact Nat.div_add_mod R a
    have hr0l : r0 < a := by rw [hr0]; exact Nat.mod_lt _ (by omega)
    have hq0l : q0 ≤ R := by rw [hq0]; exact Nat.div_le_self _ _
    have e6 : IntKind.u64.wrap ((R : Int).tdiv (a : Int)) = (q0 : Int) := by
      rw [hq0, Int.tdiv_eq_ediv_of_nonneg (by omega), ← Int.natCast_ediv]
      exact Mul64.wrapN _ (by rw [← hq0]; omega)
    have e6b : IntKind.u64.wrap ((R : Int) / (a : Int)) = (q0 : Int) := by
      rw [hq0, ← Int.natCast_ediv]
      exact Mul64.wrapN _ (by rw [← hq0]; omega)
    have e7 : IntKind.u64.wrap ((R : Int) - IntKind.u64.wrap ((q0 : Int) * (a : Int))) = (r0 : Int) := by
      rw [← Int.natCast_mul, Mul64.wrapN (q0 * a) (by omega), show (R : Int) - ((q0 * a : Nat) : Int) = (r0 : Int) by omega]
      exact Mul64.wrapN _ (by omega)
    obtain ⟨Q2, hQ2⟩ : ∃ Q2, Q2 = hq R d0 y := ⟨_, rfl⟩
    have HGT2 := Lib.hid (fun q r h1 h2 => hQ2 ▸ half_gt (d := d0) (q := q) (r := r) hY hd01 hRy h1 h2 : ∀ q r : Nat, q * a + r = R → (4294967296 ≤ q ∨ 4294967296 * r + d0 < q * b) → Q2 < q)
    have HLE2 := Lib.hid (fun q r h1 h2 => hQ2 ▸ half_le (d := d0) (q := q) (r := r) hY hRy h1 h2 : ∀ q r : Nat, q * a + r = R → q * b ≤ 4294967296 * r + d0 → q ≤ Q2)
    have HBR2 := Lib.hid (fun q r h1 h2 => hQ2 ▸ half_break (d := d0) (q := q) (r := r) hY hb1 hRy h1 h2 : ∀ q r : Nat, q * a + r = R → 4294967296 ≤ r → q ≤ Q2)
    have hQ2l : Q2 < 4294967296 := by rw [hQ2]; exact half_lt hd01 hRy
    have HI2 := Lib.hid (And.intro hqr2 (hQ2 ▸ hq0 ▸ (half_init (d := d0) hY (by omega) hd01).2 : Q2 ≤ q0))
    have HTOT := Lib.hid (two_halves (d1 := d1) (d0 := d0) hh).1
    rw [← HQ.out, ← hR, ← hQ2] at HTOT
    have hR64 : R < 18446744073709551616 := by omega
    clear hY hhd hq0 hr0 hqr2 hQ2 hR
    go_upto_block 2 with fail
    clear e8 e6 e6b e7
    go_cut [18] from 102 to 119 (fun q wx => q = .int .u64 Q2 ∧ wx = wc)
    case first =>
      go_wp2_with fail
      go_loop [18, 16] (fun q r => ∃ qn rn : Nat, q = .int .u64 qn ∧ r = .int .u64 rn ∧ rn < 4294967296 ∧ Hid (qn * a + rn = R ∧ Q2 ≤ qn)) (fun q _ => (intOf q).toNat)
      case atStart => exact ⟨q0, r0, rfl, rfl, by omega, HI2.out⟩
      case round =>
        obtain ⟨q, r, rfl, rfl, hr, HR⟩ := hrel
        have hqh : q ≤ R := by
          have h := HR.out.1
          have : q * 1 ≤ q * a := Nat.mul_le_mul_left _ (by omega)
          omega
        by_cases hge : 4294967296 ≤ q
        · have hgt := HGT2.out q r HR.out.1 (.inl hge)
          have hq1 : (4294967296 : Int) ≤ (q : Int) := by omega
          have e1 : (q - 1) * a + (r + a) = R := by
            have h := HR.out.1
            have : (q - 1 + 1) * a = q * a := by rw [Nat.sub_add_cancel (by omega)]
            rw [Nat.add_mul, Nat.one_mul] at this
            omega
          have E1 := Lib.hid (And.intro e1 (show Q2 ≤ q - 1 by omega))
          clear e1 hgt
          by_cases hbr : 4294967296 ≤ r + a
          · have hb2 : (4294967296 : Int) ≤ (r : Int) + (a : Int) := by omega
            go_wp2_with fail
            go_meet
            have e2 := HBR2.out (q - 1) (r + a) E1.out.1 hbr
            have e3 := E1.out.2
            exact ⟨by rw [show Q2 = q - 1 by omega]; congr 1; omega, rfl⟩
          · have hb2 : decide ((4294967296 : Int) ≤ (r : Int) + (a : Int)) = false := by simp; omega
            go_wp2
            go_round
            case rel => exact ⟨q - 1, r + a, by congr 1; omega, by go_num, by omega, E1.out⟩
            case measure => simp [intOf]; omega
        · have hq1 : (q : Int) < 4294967296 := by omega
          have hP : q * b ≤ 4294967295 * 4294967295 := Nat.mul_le_mul (by omega) (by omega)
          obtain ⟨P, hPe⟩ : ∃ P, P = q * b := ⟨_, rfl⟩
          have ep : IntKind.u64.wrap ((q : Int) * (b : Int)) = (P : Int) := by
            rw [hPe, ← Int.natCast_mul]; exact Mul64.wrapN _ (by omega)
          by_cases hgt0 : 4294967296 * r + d0 < q * b
          · have hgt := HGT2.out q r HR.out.1 (.inr hgt0)
            have e1 : (q - 1) * a + (r + a) = R := by
              have h := HR.out.1
              have : (q - 1 + 1) * a = q * a := by rw [Nat.sub_add_cancel (by omega)]
              rw [Nat.add_mul, Nat.one_mul] at this
              omega
            have E1 := Lib.hid (And.intro e1 (show Q2 ≤ q - 1 by omega))
            have hgt2 : 4294967296 * (r : Int) + (d0 : Int) < (P : Int) := by rw [hPe]; omega
            have hq0 : (1 : Int) ≤ (q : Int) := by omega
            clear e1 hgt hPe hgt0 hP
            by_cases hbr : 4294967296 ≤ r + a
            · have hb2 : (4294967296 : Int) ≤ (r : Int) + (a : Int) := by omega
              go_wp2_with fail
              go_meet
              have e2 := HBR2.out (q - 1) (r + a) E1.out.1 hbr
              have e3 := E1.out.2
              exact ⟨by rw [show Q2 = q - 1 by omega]; congr 1; omega, rfl⟩
            · have hb2 : decide ((4294967296 : Int) ≤ (r : Int) + (a : Int)) = false := by simp; omega
              go_wp2
              go_round
              case rel => exact ⟨q - 1, r + a, by congr 1; omega, by go_num, by omega, E1.out⟩
              case measure => simp [intOf]; omega
          · have hle := HLE2.out q r HR.out.1 (by omega)
            have e3 := HR.out.2
            obtain rfl : q = Q2 := by omega
            have hgt2 : decide (4294967296 * (r : Int) + (d0 : Int) < (P : Int)) = false := by rw [hPe]; simp only [decide_eq_false_iff_not]; omega
            have hq1d : decide ((4294967296 : Int) ≤ (q : Int)) = false := by simp; omega
            clear hPe hgt0 hP hle e3 hq1
            go_wp2_with fail
            go_meet
            exact ⟨rfl, rfl⟩
    case rest =>
      obtain ⟨rfl, rfl⟩ := hcut
      have e9 : (Q : Int) * 4294967296 + (Q2 : Int) = (((hi * 18446744073709551616 + lo) / y : Nat) : Int) := by
        rw [HLO.out, HTOT.out]
        omega
      have HE := Lib.hid e9
      clear e9
      go_wp2
      go_ret2
      exact ⟨⟨_, ret_int2 HE.out rfl⟩, 0, rfl⟩
end Go.Proofs.YtpcleebnfgnhdaaGreatDoor

set_option linter.unusedVariables false
set_option linter.unusedSimpArgs false
namespace Go.Proofs.YtpcleebnfgnhdaaGreatDoor
open Go.RowKit
open Num

theorem bitsDiv_top (hi lo y : Nat) (hy : 9223372036854775808 ≤ y) (hy2 : y < 18446744073709551616) (hlo : lo < 18446744073709551616) (hh : hi < y) (w : World) :
    Calls Tryz.prog 243 #[.int .u64 hi, .int .u64 lo, .int .u64 y] w fun e w' => (∃ r : Int, e = .returned (.tuple #[.int .u64 (((hi * 18446744073709551616 + lo) / y : Nat) : Int), .int .u64 r])) ∧ ∃ k, w' = w.drewN k := by
  have H : Calls Tryz.prog 252 #[.int .u64 hi, .int .u64 lo, .int .u64 y] w fun e w' => (∃ r : Int, e = .returned (.tuple #[.int .u64 (((hi * 18446744073709551616 + lo) / y : Nat) : Int), .int .u64 r])) ∧ ∃ k, w' = w.drewN k := by
    rcases Nat.eq_zero_or_pos hi with h | h
    · subst h
      rw [Nat.zero_mul, Nat.zero_add]
      exact bitsDiv64_zero lo y hy hy2 hlo w
    · exact bitsDiv64_top hi lo y hy hy2 hlo hh h w
  have HH := Lib.hid H
  obtain ⟨q, hq⟩ : ∃ q, q = (hi * 18446744073709551616 + lo) / y := ⟨_, rfl⟩
  rw [← hq] at HH ⊢
  clear H hq
  go_enter Tryz.func243, Tryz.ntmps243
  go_wp2_with fail
  refine HH.out.mono ?_
  rintro e w2 ⟨⟨r, rfl⟩, k, rfl⟩
  go_wp2
  go_ret2
  exact ⟨⟨_, rfl⟩, _, rfl⟩

theorem xor_max (d : Nat) (hd : d < 18446744073709551616) : bits .xor .u64 IntKind.u64.max (d : Int) = ((18446744073709551615 - d : Nat) : Int) := by
  have h1 : BitVec.ofInt 64 (IntKind.u64.max) = BitVec.allOnes 64 := by decide
  have h2 : (BitVec.ofInt 64 (d : Int)).toNat = d := by
    rw [BitVec.ofInt_natCast, BitVec.toNat_ofNat]; exact Nat.mod_eq_of_lt (by omega)
  show IntKind.u64.wrap ((BitVec.ofInt 64 (IntKind.u64.max) ^^^ BitVec.ofInt 64 (d : Int)).toNat : Int) = _
  rw [h1, BitVec.allOnes_xor, BitVec.toNat_not, h2, IntKind.wrap_u64]
  simp only [show (2 : Nat) ^ 64 - 1 = 18446744073709551615 by decide]
  omega

theorem recip_any (x : Nat) (h0 : 0 < x) (hx : x < 18446744073709551616) (w : World) :
    Calls Tryz.prog 244 #[.int .u64 x] w fun e w' => (∃ s m : Nat, s ≤ 63 ∧ 9223372036854775808 ≤ x * 2 ^ s ∧ x * 2 ^ s < 18446744073709551616 ∧ m = ((18446744073709551615 - x * 2 ^ s) * 18446744073709551616 + 18446744073709551615) / (x * 2 ^ s) ∧ e = .returned (.int .u64 m)) ∧ ∃ k, w' = w.drewN k := by
  go_enter Tryz.func244, Tryz.ntmps244
  go_wp2_with fail
  refine (nlz_any x h0 hx _).mono ?_
  rintro e w' ⟨⟨s, h1, h2, h3, rfl⟩, rfl⟩
  obtain ⟨d, hd⟩ : ∃ d, d = x * 2 ^ s := ⟨_, rfl⟩
  rw [← hd] at h2 h3
  have e1 : IntKind.u64.wrap ((x : Int) * 2 ^ s) = (d : Int) := by
    rw [show ((x : Int) * 2 ^ s) = ((x * 2 ^ s : Nat) : Int) by simp, ← hd]
    exact Mul64.wrapN _ h3
  have e2 := xor_max d h3
  have HD := Lib.hid hd
  have HDIV := Lib.hid (bitsDiv_top (18446744073709551615 - d) 18446744073709551615 d h2 h3 (by omega) (by omega) w')
  obtain ⟨u, hu⟩ : ∃ u, u = 18446744073709551615 - d := ⟨_, rfl⟩
  rw [← hu] at e2 HDIV
  have HU := Lib.hid hu
  obtain ⟨m, hm⟩ : ∃ m, m = (u * 18446744073709551616 + 18446744073709551615) / d := ⟨_, rfl⟩
  rw [← hm] at HDIV
  have HM := Lib.hid hm
  clear hd hu hm
  go_wp2_with fail
  refine HDIV.out.mono ?_
  rintro e w2 ⟨⟨r, rfl⟩, k, rfl⟩
  go_wp2
  go_ret
  have hd := HD.out
  rw [hd] at h2 h3
  exact ⟨⟨s, m, h1, h2, h3, by rw [HM.out, HU.out, hd], rfl⟩, _, rfl⟩
theorem bitsSub_any (x y b : Nat) (hx : x < 18446744073709551616) (hy : y < 18446744073709551616) (hb : b ≤ 1) (w : World) :
    Calls Tryz.prog 251 #[.int .u64 x, .int .u64 y, .int .u64 b] w fun e w' => (∃ s d : Nat, s + y + b = x + 18446744073709551616 * d ∧ s < 18446744073709551616 ∧ d ≤ 1 ∧ e = .returned (.tuple #[.int .u64 s, .int .u64 d])) ∧ w' = w := by
  have h64 := fun W : World => run_bitsSub64 x y b hb W
  obtain ⟨s, hs⟩ : ∃ s, s = (x + 18446744073709551616 - y - b) % 18446744073709551616 := ⟨_, rfl⟩
  obtain ⟨d, hd⟩ : ∃ d, d = (if x < y + b then 1 else 0) := ⟨_, rfl⟩
  rw [← hs, ← hd] at h64
  have H := Lib.hid (show s + y + b = x + 18446744073709551616 * d ∧ s < 18446744073709551616 ∧ d ≤ 1 by
    split at hd <;> subst hd <;> omega)
  have hs1 : s < 18446744073709551616 := H.out.2.1
  have hd1 : d ≤ 1 := H.out.2.2
  clear hs hd
  go_enter Tryz.func251, Tryz.ntmps251
  go_wp2
  go_ret2
  exact ⟨⟨s, d, H.out.1, hs1, hd1, rfl⟩, rfl⟩

theorem shift_uniq {y s t : Nat} (h1 : 9223372036854775808 ≤ y * 2 ^ s) (h2 : y * 2 ^ s < 18446744073709551616) (h3 : 9223372036854775808 ≤ y * 2 ^ t) (h4 : y * 2 ^ t < 18446744073709551616) : s = t := by
  rcases Nat.lt_trichotomy s t with h | h | h
  · have : y * 2 ^ t = y * 2 ^ s * 2 ^ (t - s) := by rw [Nat.mul_assoc, ← Nat.pow_add, show s + (t - s) = t by omega]
    have h5 : 2 ^ 1 ≤ 2 ^ (t - s) := Nat.pow_le_pow_right (by omega) (by omega)
    have h6 := Nat.mul_le_mul h1 h5
    omega
  · exact h
  · have : y * 2 ^ s = y * 2 ^ t * 2 ^ (s - t) := by rw [Nat.mul_assoc, ← Nat.pow_add, show t + (s - t) = s by omega]
    have h5 : 2 ^ 1 ≤ 2 ^ (s - t) := Nat.pow_le_pow_right (by omega) (by omega)
    have h6 := Nat.mul_le_mul h3 h5
    omega

/-- the quotient and the remainder, of the scaled ones -/
theorem scale_back {N y s q r d N' : Nat} (hd : d = y * 2 ^ s) (hN : N' = N * 2 ^ s) (hy : 0 < y) (h : N' = d * q + r) (hr : r < d) : N / y = q ∧ N % y = r / 2 ^ s := by
  obtain ⟨e1, e2⟩ := div_mod_of h hr
  have hp := Nat.two_pow_pos s
  rw [hd, hN, Nat.mul_div_mul_right _ _ hp] at e1
  rw [hd, hN, Nat.mul_mod_mul_right] at e2
  refine ⟨e1, ?_⟩
  rw [← e2, Nat.mul_div_cancel _ hp]

set_option maxRecDepth 100000 in
set_option maxHeartbeats 1000000 in
theorem divWW_any (x1 x0 y m s0 : Nat) (hy : 0 < y) (hy2 : y < 18446744073709551616) (h1 : x1 < y) (h0 : x0 < 18446744073709551616)
    (hs1 : 9223372036854775808 ≤ y * 2 ^ s0) (hs2 : y * 2 ^ s0 < 18446744073709551616) (hm : m = ((18446744073709551615 - y * 2 ^ s0) * 18446744073709551616 + 18446744073709551615) / (y * 2 ^ s0)) (w : World) :
    Calls Tryz.prog 245 #[.int .u64 x1, .int .u64 x0, .int .u64 y, .int .u64 m] w fun e w' => e = .returned (.tuple #[.int .u64 (((x1 * 18446744073709551616 + x0) / y : Nat) : Int), .int .u64 (((x1 * 18446744073709551616 + x0) % y : Nat) : Int)]) ∧ w' = w := by
  have hrec := recip_spec (d := y * 2 ^ s0) (m := m) (by omega) hs2 hm
  have hm64 : m < 18446744073709551616 := by
    have h9 : m * 9223372036854775808 ≤ m * (y * 2 ^ s0) := Nat.mul_le_mul_left _ hs1
    have := hrec.1
    generalize m * (y * 2 ^ s0) = z at *
    omega
  obtain ⟨d, hd⟩ : ∃ d, d = y * 2 ^ s0 := ⟨_, rfl⟩
  rw [← hd] at hrec hs1 hs2
  have HNL := Lib.hid (nlz_any y hy hy2 w)
  have htop := shl_top (s := s0) (hi := x1) (lo := x0) (y := y) (by
    rcases Nat.lt_or_ge 64 s0 with h | h
    · exfalso
      have h2 : 2 ^ 64 ≤ 2 ^ s0 := Nat.pow_le_pow_right (by omega) (by omega)
      have h3 : 1 * 2 ^ 64 ≤ y * 2 ^ s0 := Nat.mul_le_mul hy h2
      omega
    · exact h) h1 h0
  have hs64 : s0 ≤ 63 := by
    rcases Nat.lt_or_ge 63 s0 with h | h
    · exfalso
      have h2 : 2 ^ 64 ≤ 2 ^ s0 := Nat.pow_le_pow_right (by omega) (by omega)
      have h3 : 1 * 2 ^ 64 ≤ y * 2 ^ s0 := Nat.mul_le_mul hy h2
      omega
    · exact h
  have htwo := shl_two x1 x0 s0 (by omega)
  obtain ⟨X1, hX1⟩ : ∃ X1, X1 = x1 * 2 ^ s0 + x0 / 2 ^ (64 - s0) := ⟨_, rfl⟩
  obtain ⟨X0, hX0⟩ : ∃ X0, X0 = x0 * 2 ^ s0 % 18446744073709551616 := ⟨_, rfl⟩
  rw [← hX1, ← hd] at htop
  rw [← hX1, ← hX0] at htwo
  have hX0l : X0 < 18446744073709551616 := by rw [hX0]; exact Nat.mod_lt _ (by decide)
  have hX1l : X1 < 18446744073709551616 := by omega
  obtain ⟨q, hq⟩ : ∃ q, q = (m * X1 + X1 * 18446744073709551616 + X0) / 18446744073709551616 := ⟨_, rfl⟩
  have hpl := divWW_plain (d := d) (m := m) (x1 := X1) (x0 := X0) (q := q) hs1 hs2 htop hX0l hrec.1 hrec.2 hq
  have hqW : q < 18446744073709551616 := by
    have h9 : d * q < d * 18446744073709551616 := by
      have := hpl.1
      have h8 : (X1 + 1) * 18446744073709551616 ≤ d * 18446744073709551616 := Nat.mul_le_mul_right _ htop
      generalize d * q = z at *
      omega
    exact Nat.lt_of_mul_lt_mul_left h9
  obtain ⟨R, hR⟩ : ∃ R, R = X1 * 18446744073709551616 + X0 - d * q := ⟨_, rfl⟩
  have hNR : X1 * 18446744073709551616 + X0 = d * q + R := by
    have := hpl.1
    generalize d * q = z at *
    omega
  have hRl : R < 18446744073709551616 + d := by have := hpl.2; rw [← hR] at this; exact this
  have HFIN := Lib.hid (fun q' r' (h : X1 * 18446744073709551616 + X0 = d * q' + r') (h2 : r' < d) => scale_back (N := x1 * 18446744073709551616 + x0) hd htwo.symm hy h h2)
  have HHQ := Lib.hid hq
  have HX := Lib.hid (And.intro hX1 hX0)
  have HNR := Lib.hid hNR
  have HD := Lib.hid hd
  clear hrec hm hd htwo hX1 hX0 hq hpl hR hNR
  have HMU1 := Lib.hid (fun W : World => Tryz.bits_Mul m X1 hm64 hX1l W)
  have HMU2 := Lib.hid (fun W : World => Tryz.bits_Mul d q hs2 hqW W)
  go_enter Tryz.func245, Tryz.ntmps245
  go_wp2_with fail
  refine HNL.out.mono ?_
  rintro e w' ⟨⟨s, hs, h2, h3, rfl⟩, rfl⟩
  obtain rfl : s = s0 := shift_uniq h2 h3 (by rw [← HD.out]; exact hs1) (by rw [← HD.out]; exact hs2)
  clear h2 h3 HNL
  go_upto_if 26 with fail
  go_cut [0, 1, 2] from 27 to 40 (fun a b c wx => a = .int .u64 X1 ∧ b = .int .u64 X0 ∧ c = .int .u64 d ∧ wx = w')
  case first =>
    by_cases hz : s = 0
    · subst hz
      go_wp2_with fail
      go_meet
      have e1 := HX.out.1
      have e2 := HX.out.2
      have e3 := HD.out
      simp at e1 e2 e3
      have e4 : x0 / 18446744073709551616 = 0 := Nat.div_eq_of_lt h0
      refine ⟨?_, ?_, ?_, rfl⟩
      · rw [e1]; congr 2; omega
      · rw [e2]; congr 2; omega
      · rw [e3]
    · have hz2 : ((s : Int) != 0) = true := by simp; omega
      have e1 : bits .or .u64 (IntKind.u64.wrap ((x1 : Int) * 2 ^ s)) ((x0 : Int) / 2 ^ (64 - s)) = (X1 : Int) := by
        have hx := HX.out.1
        have hB : x0 / 2 ^ (64 - s) < 2 ^ s := by
          rw [Nat.div_lt_iff_lt_mul (Nat.two_pow_pos _), Nat.mul_comm, ← pow64 (by omega)]; exact h0
        have hA : x1 * 2 ^ s < 18446744073709551616 := Nat.lt_of_le_of_lt (Nat.le_add_right _ _) (hx ▸ hX1l)
        have hB2 : x0 / 2 ^ (64 - s) < 18446744073709551616 := Nat.lt_of_le_of_lt (Nat.div_le_self _ _) h0
        rw [show ((x1 : Int) * 2 ^ s) = ((x1 * 2 ^ s : Nat) : Int) by simp, show ((x0 : Int) / 2 ^ (64 - s)) = ((x0 / 2 ^ (64 - s) : Nat) : Int) by simp, Mul64.wrapN _ hA, u64_or_nat _ _ hA hB2, hx]
        congr 1
        rw [Nat.mul_comm x1, Nat.two_pow_add_eq_or_of_lt hB]
      have e2 : IntKind.u64.wrap ((x0 : Int) * 2 ^ s) = (X0 : Int) := by
        rw [HX.out.2, show ((x0 : Int) * 2 ^ s) = ((x0 * 2 ^ s : Nat) : Int) by simp]
        exact Mul64.wrapM _
      have e3 : IntKind.u64.wrap ((y : Int) * 2 ^ s) = (d : Int) := by
        rw [HD.out, show ((y : Int) * 2 ^ s) = ((y * 2 ^ s : Nat) : Int) by simp]
        exact Mul64.wrapN _ (by rw [← HD.out]; exact hs2)
      go_wp2_with fail
      go_meet
      exact ⟨rfl, rfl, rfl, rfl⟩
  case rest =>
    obtain ⟨rfl, rfl, rfl, rfl⟩ := hcut
    have HQ := HHQ.out
    have HNRo := HNR.out
    have hdiv1 : 18446744073709551616 * (m * X1 / 18446744073709551616) + m * X1 % 18446744073709551616 = m * X1 := Nat.div_add_mod _ _
    have hdiv2 : 18446744073709551616 * (d * q / 18446744073709551616) + d * q % 18446744073709551616 = d * q := Nat.div_add_mod _ _
    have ht0l : m * X1 % 18446744073709551616 < 18446744073709551616 := Nat.mod_lt _ (by decide)
    have hd0l : d * q % 18446744073709551616 < 18446744073709551616 := Nat.mod_lt _ (by decide)
    have ht1l : m * X1 / 18446744073709551616 < 18446744073709551616 := by
      rw [Nat.div_lt_iff_lt_mul (by decide)]; exact Nat.mul_lt_mul_of_lt_of_le hm64 (by omega) (by decide)
    have hd1l : d * q / 18446744073709551616 < 18446744073709551616 := by
      rw [Nat.div_lt_iff_lt_mul (by decide)]; exact Nat.mul_lt_mul_of_lt_of_le hs2 (by omega) (by decide)
    obtain ⟨t1, ht1⟩ : ∃ t1, t1 = m * X1 / 18446744073709551616 := ⟨_, rfl⟩
    obtain ⟨t0, ht0⟩ : ∃ t0, t0 = m * X1 % 18446744073709551616 := ⟨_, rfl⟩
    obtain ⟨dq1, hdq1⟩ : ∃ dq1, dq1 = d * q / 18446744073709551616 := ⟨_, rfl⟩
    obtain ⟨dq0, hdq0⟩ : ∃ dq0, dq0 = d * q % 18446744073709551616 := ⟨_, rfl⟩
    rw [← ht1, ← ht0] at HMU1 hdiv1
    rw [← ht1] at ht1l
    rw [← ht0] at ht0l
    rw [← hdq1, ← hdq0] at HMU2 hdiv2
    rw [← hdq1] at hd1l
    rw [← hdq0] at hd0l
    rw [← hdiv1] at HQ
    rw [← hdiv2] at HNRo
    -- the sum of the two words
    have HADD := Lib.hid (fun s1 c1 s2 c2 (e1 : s1 + 18446744073709551616 * c1 = t0 + X0 + 0) (e2 : s1 < 18446744073709551616) (e3 : s2 + 18446744073709551616 * c2 = t1 + X1 + c1) (e4 : s2 < 18446744073709551616) => (by omega : s2 = q) : ∀ s1 c1 s2 c2 : Nat, s1 + 18446744073709551616 * c1 = t0 + X0 + 0 → s1 < 18446744073709551616 → s2 + 18446744073709551616 * c2 = t1 + X1 + c1 → s2 < 18446744073709551616 → s2 = q)
    have HSUB := Lib.hid (fun r0 b0 r1 b1 (e1 : r0 + dq0 + 0 = X0 + 18446744073709551616 * b0) (e2 : r0 < 18446744073709551616) (e3 : r1 + dq1 + b0 = X1 + 18446744073709551616 * b1) (e4 : r1 < 18446744073709551616) (e5 : b1 ≤ 1) (e6 : b0 ≤ 1) => (by omega : R = 18446744073709551616 * r1 + r0) : ∀ r0 b0 r1 b1 : Nat, r0 + dq0 + 0 = X0 + 18446744073709551616 * b0 → r0 < 18446744073709551616 → r1 + dq1 + b0 = X1 + 18446744073709551616 * b1 → r1 < 18446744073709551616 → b1 ≤ 1 → b0 ≤ 1 → R = 18446744073709551616 * r1 + r0)
    clear HQ HNRo hdiv1 hdiv2 ht1 ht0 hdq1 hdq0
    go_wp2_with fail
    refine (HMU1.out _).mono ?_
    rintro e w2 ⟨rfl, rfl⟩
    go_wp2_with fail
    refine (bitsAdd_any t0 X0 0 ht0l hX0l (by omega) _).mono ?_
    rintro e w2 ⟨⟨s1, c1, a1, a2, a3, rfl⟩, rfl⟩
    have A1 := Lib.hid a1; clear a1
    go_wp2_with fail
    refine (bitsAdd_any t1 X1 c1 ht1l hX1l a3 _).mono ?_
    rintro e w2 ⟨⟨s2, c2, b1, b2, b3, rfl⟩, rfl⟩
    obtain rfl : s2 = q := HADD.out s1 c1 s2 c2 A1.out a2 b1 b2
    clear b1 HADD A1
    go_wp2_with fail
    refine (HMU2.out _).mono ?_
    rintro e w2 ⟨rfl, rfl⟩
    go_wp2_with fail
    refine (bitsSub_any X0 dq0 0 hX0l hd0l (by omega) _).mono ?_
    rintro e w2 ⟨⟨r0, b0, f1, f2, f3, rfl⟩, rfl⟩
    have F1 := Lib.hid f1; clear f1
    go_wp2_with fail
    refine (bitsSub_any X1 dq1 b0 hX1l hd1l f3 _).mono ?_
    rintro e w2 ⟨⟨r1, b1, g1, g2, g3, rfl⟩, rfl⟩
    have hRe := HSUB.out r0 b0 r1 b1 F1.out f2 g1 g2 g3 f3
    clear g1 HSUB F1 HMU1 HMU2
    have hend : ∀ q' r' : Nat, q' < 18446744073709551616 → X1 * 18446744073709551616 + X0 = d * q' + r' → r' < d → ((q' : Int) = (((x1 * 18446744073709551616 + x0) / y : Nat) : Int)) ∧ ((r' : Int) / 2 ^ s = (((x1 * 18446744073709551616 + x0) % y : Nat) : Int)) := fun q' r' h h2 h3 => by
      obtain ⟨z1, z2⟩ := HFIN.out q' r' h2 h3
      refine ⟨by rw [z1], by rw [z2]; simp⟩
    have HEND := Lib.hid hend
    clear hend HFIN
    have hN := Lib.hid HNR.out
    have hstep : ∀ k : Nat, k * d ≤ R → X1 * 18446744073709551616 + X0 = d * (s2 + k) + (R - k * d) := fun k hk => by
      rw [HNR.out, Nat.mul_add, Nat.mul_comm d k]
      generalize d * s2 = z at *
      generalize k * d = u at *
      omega
    have hq1 : ∀ k : Nat, k * d ≤ R → s2 + k < 18446744073709551616 := fun k hk => by
      have h := hstep k hk
      have h9 : d * (s2 + k) < d * 18446744073709551616 := by
        have h8 : (X1 + 1) * 18446744073709551616 ≤ d * 18446744073709551616 := Nat.mul_le_mul_right _ htop
        generalize d * (s2 + k) = z at *
        omega
      exact Nat.lt_of_mul_lt_mul_left h9
    have HST := Lib.hid (And.intro hstep hq1)
    clear hstep hq1 hN
    by_cases hr1 : r1 = 0
    · subst hr1
      have hRr : R = r0 := by omega
      subst hRr
      by_cases hlt : d ≤ R
      · have h1d := HST.out.1 1 (by omega)
        have h1q := HST.out.2 1 (by omega)
        rw [Nat.one_mul] at h1d
        have H1 := Lib.hid (HEND.out (s2 + 1) (R - d) h1q h1d (by omega))
        have hlt2 : (d : Int) ≤ (R : Int) := by omega
        have HW := Lib.hid (show IntKind.u64.wrap ((R : Int) - (d : Int)) = ((R - d : Nat) : Int) by simp only [IntKind.wrap_u64]; omega)
        have hq64 : (s2 : Int) + 1 ≤ 18446744073709551615 := by omega
        clear h1d h1q hRl htop hs1 hqW h0 hm64 hX1l hX0l ht0l hd0l ht1l hd1l a2 b2 f2 g2 hRe
        go_wp2
        go_ret2
        exact ⟨ret_int2 (Eq.trans (by omega) H1.out.1) (Eq.trans (by rw [HW.out]) H1.out.2), rfl⟩
      · have h1d := HST.out.1 0 (by omega)
        rw [Nat.zero_mul, Nat.add_zero, Nat.sub_zero] at h1d
        have H1 := Lib.hid (HEND.out s2 R (by omega) h1d (by omega))
        have hlt2 : decide ((d : Int) ≤ (R : Int)) = false := by simp; omega
        clear h1d hRl htop hs1 hqW h0 hm64 hX1l hX0l ht0l hd0l ht1l hd1l a2 b2 f2 g2 hRe
        go_wp2
        go_ret2
        exact ⟨ret_int2 H1.out.1 H1.out.2, rfl⟩
    · have hr11 : r1 = 1 := by omega
      subst hr11
      have hRr : R = r0 + 18446744073709551616 := by omega
      have hr0d : r0 < d := by omega
      have h1d := HST.out.1 1 (by omega)
      have h1q := HST.out.2 1 (by omega)
      rw [Nat.one_mul] at h1d
      obtain ⟨R1, hR1⟩ : ∃ R1, R1 = R - d := ⟨_, rfl⟩
      rw [← hR1] at h1d
      have e1 : IntKind.u64.wrap ((r0 : Int) - (d : Int)) = (R1 : Int) := by simp only [IntKind.wrap_u64]; omega
      have hq64 : (s2 : Int) + 1 ≤ 18446744073709551615 := by omega
      by_cases hlt : d ≤ R1
      · have h2d := HST.out.1 2 (by omega)
        have h2q := HST.out.2 2 (by omega)
        have H1 := Lib.hid (HEND.out (s2 + 2) (R - 2 * d) h2q h2d (by omega))
        have hlt2 : (d : Int) ≤ (R1 : Int) := by omega
        have HW := Lib.hid (show IntKind.u64.wrap ((R1 : Int) - (d : Int)) = ((R1 - d : Nat) : Int) by simp only [IntKind.wrap_u64]; omega)
        have hq65 : (s2 : Int) + 1 + 1 ≤ 18446744073709551615 := by omega
        have HR2 := Lib.hid (show R - 2 * d = R1 - d by omega)
        clear h1d h1q h2d h2q hRl htop hs1 hqW h0 hm64 hX1l hX0l ht0l hd0l ht1l hd1l a2 b2 f2 g2 hRe hRr hr0d hR1
        go_wp2
        go_ret2
        exact ⟨ret_int2 (Eq.trans (by omega) H1.out.1) (Eq.trans (by rw [HW.out, HR2.out]) H1.out.2), rfl⟩
      · have H1 := Lib.hid (HEND.out (s2 + 1) R1 h1q h1d (by omega))
        have hlt2 : decide ((d : Int) ≤ (R1 : Int)) = false := by simp; omega
        clear h1d h1q hRl htop hs1 hqW h0 hm64 hX1l hX0l ht0l hd0l ht1l hd1l a2 b2 f2 g2 hRe hRr hr0d hR1
        go_wp2
        go_ret2
        exact ⟨ret_int2 (Eq.trans (by omega) H1.out.1) H1.out.2, rfl⟩

end Go.Proofs.YtpcleebnfgnhdaaGreatDoor
