/- Walks: spec.floatParts, bytesOf, Power, Zero, digit. -/
import Derived.Test.YtgohhebffcldeaaGreatDoorFin
set_option linter.unusedVariables false
set_option linter.unusedSimpArgs false
namespace Go.Proofs.YtgohhebffcldeaaGreatDoor
open Go.RowKit
open Num

theorem floatParts_any (B : Nat) (hB : B < 18446744073709551616) (w : World) :
    Calls Tryz.prog 95 #[.float .f64 B] w fun e w' => e = .returned (.tuple #[.bool (fneg B), .int .u64 (fman B : Nat), .int .i64 (fplace B)]) ∧ w' = w := by
  have h1 : bits .and .u64 ((B : Int) / 4503599627370496) 2047 = (fexp B : Int) := by
    have := and_2047 (B / 4503599627370496) (by omega)
    rw [Int.natCast_ediv] at this
    exact this
  have h2 : bits .and .u64 (B : Int) 4503599627370495 = (ffrac B : Int) := and_frac B hB
  have h3 : (((B : Int) / 9223372036854775808) == 1) = fneg B := by
    unfold fneg
    by_cases h : B / 9223372036854775808 = 1
    · have : ((B : Int) / 9223372036854775808) = 1 := by omega
      simp [h, this]
    · have : ((B : Int) / 9223372036854775808) ≠ 1 := by omega
      rw [beq_eq_false_iff_ne.2 this, beq_eq_false_iff_ne.2 h]
  have h4 : bits .or .u64 (ffrac B : Int) 4503599627370496 = ((ffrac B + 4503599627370496 : Nat) : Int) := or_hidden _ (ffrac_lt B)
  have hb := run_tobits B
  have hx := fexp_lt B
  have h1b : (fexp B : Int) ≤ 2047 := by omega
  by_cases h0 : fexp B = 0
  · have hm : fman B = ffrac B := by unfold fman; rw [if_pos h0]
    have hp : fplace B = -1074 := by unfold fplace; rw [if_pos h0]
    have h5 : ((fexp B : Int) == 0) = true := by rw [h0]; rfl
    rw [hm, hp]
    clear h0 hm hp hx
    go_enter Tryz.func95, Tryz.ntmps95
    go_wp2
    exact bodyPost_ret (v := .tuple #[.bool (fneg B), .int .u64 (ffrac B : Nat), .int .i64 (-1074)]) (by simp [results, Tryz.results95, go_sem]) rfl ⟨rfl, rfl⟩
  · have hm : fman B = ffrac B + 4503599627370496 := by unfold fman; rw [if_neg h0]
    have hp : fplace B = (fexp B : Int) - 1075 := by unfold fplace; rw [if_neg h0]
    have h5 : ((fexp B : Int) == 0) = false := by rw [beq_eq_false_iff_ne]; omega
    rw [hm, hp]
    clear h0 hm hp
    go_enter Tryz.func95, Tryz.ntmps95
    go_wp2
    exact bodyPost_ret (v := .tuple #[.bool (fneg B), .int .u64 ((ffrac B + 4503599627370496 : Nat) : Int), .int .i64 ((fexp B : Int) - 1075)]) (by simp [results, Tryz.results95, go_sem]) rfl ⟨rfl, rfl⟩

theorem bytesOf_any (U : Nat) (hU : U < 18446744073709551616) (w : World) :
    Calls Tryz.prog 93 #[.int .u64 U] w fun e w' => e = .returned (.slice (some ⟨w.heap.size, 0, none⟩) 8 8) ∧ BytAt w' (.slice (some ⟨w.heap.size, 0, none⟩) 8 8) 8 U ∧ Below w.heap.size w w' := by
  have hmk : ∀ W : World, (Instr.makeSlice 22 (.int .i64 8) (.int .i64 8)).run Tryz.prog W = .ok (.slice (some ⟨W.heap.size, 0, none⟩) 8 8) (W.alloc (.cells (madeCells #[.int .u8 0] 8) 5)) := run_make_bytes 8 (by omega)
  have hrow := Row.made w 5 8 (.int .u8 0)
  obtain ⟨cs, hcs⟩ : ∃ cs, cs = madeCells #[.int .u8 0] 8 := ⟨_, rfl⟩
  rw [← hcs] at hmk hrow
  clear hcs
  go_enter Tryz.func93, Tryz.ntmps93
  go_wp2_with fail
  have hb1 : Below w.heap.size w (w.alloc (.cells cs 5)) := (Below.refl _ _).alloc (Nat.le_refl _) _
  generalize w.alloc (.cells cs 5) = w1 at *
  obtain ⟨g, hgg⟩ : ∃ g, g = w.heap.size := ⟨_, rfl⟩
  rw [← hgg] at hrow ⊢
  have HG := Lib.hid hgg; clear hgg
  have HB1 := Lib.hid hb1; clear hb1
  go_loopw [0, 4] (fun u i wr => ∃ k : Nat, ∃ f, k ≤ 8 ∧ u = .int .u64 ((U / 2 ^ (8 * k) : Nat) : Int) ∧ i = .int .i64 (7 - (k : Int)) ∧ Row wr g 5 8 f ∧ Hid (∀ p, 8 - k ≤ p → p < 8 → f p = .int .u8 (dg U (7 - p))) ∧ Hid (Chg g w1 wr)) (fun _ i _ => (intOf i + 1).toNat)
  case atStart => exact ⟨0, _, by omega, by simp, by simp, hrow, fun p h1 h2 => by omega, Chg.refl _ _⟩
  case round =>
    obtain ⟨k, f, hk, rfl, rfl, hr, HF, HCH⟩ := hrel
    by_cases hk8 : k < 8
    · have hu : U / 2 ^ (8 * k) < 18446744073709551616 := Nat.lt_of_le_of_lt (Nat.div_le_self _ _) hU
      have hd : U / 2 ^ (8 * (k + 1)) = U / 2 ^ (8 * k) / 256 := by
        rw [Nat.div_div_eq_div_mul, show (256 : Nat) = 2 ^ 8 by decide, ← Nat.pow_add, show 8 * k + 8 = 8 * (k + 1) by omega]
      have hm : U / 2 ^ (8 * k) % 256 = dg U k := rfl
      obtain ⟨u, hue⟩ : ∃ u, u = U / 2 ^ (8 * k) := ⟨_, rfl⟩
      rw [← hue] at hu hd hm ⊢
      have HD := Lib.hid hd; clear hd
      have HM := Lib.hid hm; clear hm hue
      have c0 := hr.cell (i := 7 - k) (by omega)
      have f0 := hr.frozen (7 - k)
      have HR := Lib.hid hr; clear hr
      go_wp2
      go_roundw
      case rel => 
        refine ⟨k + 1, _, by omega, ?_, by go_num, HR.out.set (7 - k) _, fun p h1 h2 => ?_, HCH.out.set _ _⟩
        · rw [HD.out]; simp
        · show (if _ then _ else _) = _
          by_cases hp : p = 7 - k
          · rw [if_pos hp, hp, show 7 - (7 - k) = k by omega, ← HM.out]; simp
          · rw [if_neg hp]; exact HF.out p (by omega) h2
      case measure => simp [intOf]; omega
    · obtain rfl : k = 8 := by omega
      go_wp2
      go_ret
      refine ⟨?_, ⟨by simpa using hU, .inr ⟨by omega, g, 0, 8, (by rw [HG.out]), by omega, hr.lt, fun i hi => ?_⟩⟩, ?_⟩
      · rw [← HG.out]; rfl
      · rw [Nat.zero_add, hr.cell hi, HF.out i (by omega) hi]
      · exact Chg.below HB1.out HB1.out.size HCH.out (by rw [HG.out]; exact Nat.le_refl _)

theorem Zero_any (neg : Bool) (s : Value) (n V : Nat) (w : World) (h : MagAt w s n V) :
    Calls Tryz.prog 86 #[.agg #[.bool neg, s]] w fun e w' => e = .returned (.bool (n == 0)) ∧ w' = w.alloc (.cells #[.bool neg, s] 29) := by
  obtain ⟨a, c, rfl⟩ := h.shape
  have hd : ((n : Int) == 0) = (n == 0) := by cases n <;> rfl
  clear h
  go_enter Tryz.func86, Tryz.ntmps86
  go_wp2
  go_ret
  exact ⟨rfl, rfl⟩

theorem digit_in (g p c n V i : Nat) (w : World) (hi : i < n) (hn : n ≤ 9223372036854775807) (hc : ∀ i, i < n → w.cell? ⟨g, p + i, none⟩ = some (.int .u8 (dg V (n - 1 - i)))) :
    Calls Tryz.prog 90 #[.slice (some ⟨g, p, none⟩) n c, .int .i64 i] w fun e w' => e = .returned (.int .i64 (dg V i)) ∧ w' = w := by
  have hcc := hc (n - 1 - i) (by omega)
  rw [show n - 1 - (n - 1 - i) = i by omega] at hcc
  have hd := dg_lt V i
  have e : ((n : Int) - 1 - (i : Int)).toNat = n - 1 - i := by omega
  clear hc
  go_enter Tryz.func90, Tryz.ntmps90
  go_wp2
  go_ret
  exact ⟨rfl, rfl⟩
theorem digit_out (a : Option Addr) (c n i : Nat) (w : World) (hi : n ≤ i) :
    Calls Tryz.prog 90 #[.slice a n c, .int .i64 i] w fun e w' => e = .returned (.int .i64 0) ∧ w' = w := by
  go_enter Tryz.func90, Tryz.ntmps90
  go_wp2
  go_ret
  exact ⟨rfl, rfl⟩

theorem dg_pow (q r i : Nat) (hr : r < 8) (hi : i ≤ q) : dg (2 ^ (8 * q + r)) (q - i) = if i = 0 then 2 ^ r else 0 := by
  unfold dg
  rw [Nat.pow_div (by omega) (by omega), show 8 * q + r - 8 * (q - i) = 8 * i + r by omega]
  by_cases h : i = 0
  · subst h
    rw [if_pos rfl, Nat.mul_zero, Nat.zero_add]
    exact Nat.mod_eq_of_lt (Nat.pow_lt_pow_right (by omega) hr)
  · rw [if_neg h, show 8 * i + r = 8 + (8 * (i - 1) + r) by omega, Nat.pow_add]
    exact Nat.mul_mod_right _ _

theorem Power_any (k : Nat) (hk : k ≤ 1099511627776) (w : World) :
    Calls Tryz.prog 54 #[.int .i64 k] w fun e w' => ∃ s m, e = .returned (.agg #[.bool false, s]) ∧ m ≤ k / 8 + 1 ∧ NewMag w w' s m (2 ^ k) := by
  obtain ⟨q, hq⟩ : ∃ q, q = k / 8 := ⟨_, rfl⟩
  obtain ⟨r, hr⟩ : ∃ r, r = k % 8 := ⟨_, rfl⟩
  have hk2 : k = 8 * q + r := by omega
  have hmk := run_make_bytes (q + 1) (by omega)
  have hq1 : ((q + 1 : Nat) : Int) = (k : Int) / 8 + 1 := by omega
  rw [hq1] at hmk
  have hr1 : (k : Int) % 8 = (r : Int) := by omega
  have hr8 : r < 8 := by omega
  rw [← hq]
  have HK := Lib.hid hk2
  clear hq hq1 hr hk2
  have hrow := Row.made w 5 (q + 1) (.int .u8 0)
  obtain ⟨cs, hcs⟩ : ∃ cs, cs = madeCells #[.int .u8 0] (q + 1) := ⟨_, rfl⟩
  have hc0 : cs[0]? = some (.int .u8 0) := by rw [hcs]; simp [madeCells]
  have hci : ∀ i, i < q + 1 → cs[i]? = some (.int .u8 0) := fun i hi => by rw [hcs]; simp [madeCells, hi, Nat.mod_one]
  have hcz : cs.size = q + 1 := by rw [hcs]; exact size_madeCells _ _
  rw [← hcs] at hmk
  clear hcs hrow
  have hb1 : ∀ u : Int, Below w.heap.size w ((w.alloc (.cells #[.bool false, .slice none 0 0] 29)).alloc (.cells (cs.setIfInBounds 0 (.int .u8 u)) 5)) := fun u => ((Below.refl _ _).alloc (Nat.le_refl _) _).alloc (by simp) _
  have hbyt : BytAt ((w.alloc (.cells #[.bool false, .slice none 0 0] 29)).alloc (.cells (cs.setIfInBounds 0 (.int .u8 (2 ^ r % 256))) 5)) (.slice (some ⟨w.heap.size + 1, 0, none⟩) (q + 1) (q + 1)) (q + 1) (2 ^ k) := by
    rw [HK.out]
    refine ⟨Nat.pow_lt_pow_right (by omega) (by omega), .inr ⟨by omega, w.heap.size + 1, 0, q + 1, rfl, Nat.le_refl _, by simp, fun i hi => ?_⟩⟩
    rw [Nat.zero_add, (cell_of_row _ _ i _ _ (0, 0) (heap2_1 w _ _)), show q + 1 - 1 - i = q - i by omega, dg_pow q r i hr8 (by omega)]
    by_cases h : i = 0
    · subst h
      have h2 : 2 ^ r < 256 := Nat.pow_lt_pow_right (a := 2) (by omega) hr8
      have h3 : (2 : Int) ^ r % 256 = ((2 ^ r : Nat) : Int) := by
        obtain ⟨x, hx⟩ : ∃ x, x = 2 ^ r := ⟨_, rfl⟩
        have : (2 : Int) ^ r = (x : Int) := by rw [hx]; simp
        rw [← hx] at h2
        rw [this, ← hx]; omega
      rw [h3]
      simp [hcz]
    · rw [if_neg h, Array.getElem?_setIfInBounds, if_neg (by omega), hci i hi]
      rfl
  have HO := Lib.hid (Of_any false _ _ _ _ hbyt (by have := HK.out; omega))
  have HB := Lib.hid (hb1 (2 ^ r % 256))
  have HQ := Lib.hid (heap2_0 w (.cells #[.bool false, .slice none 0 0] 29) (.cells (cs.setIfInBounds 0 (.int .u8 (2 ^ r % 256))) 5))
  clear hbyt hb1 hci hcz HK
  go_enter Tryz.func54, Tryz.ntmps54
  go_wp2_with fail
  refine HO.out.mono ?_
  rintro e w2 ⟨s, m, rfl, hm, hn⟩
  obtain ⟨a, c, rfl⟩ := hn.1.shape
  have hR := (hn.2.2.block w.heap.size (by simp; omega)).trans HQ.out
  have hne : ∀ b k c', Value.slice a m c = .slice (some b) k c' → 0 < m → b.block ≠ w.heap.size := fun b k c' e h0 => by have := hn.2.1 b k c' e h0; simp at this; omega
  have HN := Lib.hid (hn.from HB.out)
  have HNE := Lib.hid hne
  have HR := Lib.hid hR
  have c0 := (cell_of_row w2 _ 0 _ _ (0, 0) hR).trans rfl
  have c1 := (cell_of_row w2 _ 1 _ _ (0, 0) hR).trans rfl
  have f0 : ∀ i, w2.frozen? ⟨w.heap.size, i, none⟩ = false := fun i => by simp [World.frozen?, hR]
  clear hn hR hne
  go_wp2
  have hW := set1 (i := 1) (x := .slice a m c) (set1 (i := 0) (x := .bool false) HR.out)
  have e0 := (cell_of_row _ _ 0 _ _ (0, 0) hW).trans rfl
  have e1 := (cell_of_row _ _ 1 _ _ (0, 0) hW).trans rfl
  refine bodyPost_ret (v := .agg #[.bool false, .slice a m c]) (by simp [results, Tryz.results54, go_sem, e0, e1]) rfl ⟨_, m, rfl, hm, (HN.out.put (Nat.le_refl _) HNE.out _).put (Nat.le_refl _) HNE.out _⟩

end Go.Proofs.YtgohhebffcldeaaGreatDoor
