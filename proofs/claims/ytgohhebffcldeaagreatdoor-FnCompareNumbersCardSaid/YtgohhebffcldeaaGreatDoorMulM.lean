/- Walks: nat.mul of numbers of few words. -/
import Derived.Test.YtgohhebffcldeaaGreatDoorMulN
set_option linter.unusedVariables false
set_option linter.unusedSimpArgs false
namespace Go.Proofs.YtgohhebffcldeaaGreatDoor
open Go.RowKit
open Num

theorem alias_nil (a : Option Addr) (n c : Nat) (w : World) :
    Calls Tryz.prog 193 #[.slice none 0 0, .slice a n c] w fun e w' => e = .returned (.bool false) ∧ ∃ k, w' = w.drewN k := by
  go_enter Tryz.func193, Tryz.ntmps193
  go_wp2_with fail
  go_quiet (fail)
  go_wp2
  go_ret
  exact ⟨rfl, _, rfl⟩

theorem mul_ge (st : Option Addr) (n m X Y : Nat) (s t : Value) (w : World) (hX : Words w s n X) (hY : Words w t m Y) (hnm : m ≤ n) (hn : n ≤ 1048576) (hm : m ≤ 39) (hk : KT w) :
    Calls Tryz.prog 175 #[.slice none 0 0, .pointer st, s, t] w fun e w' => ProdIs w w' e (X * Y) := by
  obtain ⟨sa, sc, rfl⟩ := hX.shape
  obtain ⟨ta, tc, rfl⟩ := hY.shape
  have h1 : decide ((n : Int) < (m : Int)) = false := by simp; omega
  by_cases hm0 : m = 0
  · subst hm0
    obtain rfl : Y = 0 := hY.1.zero_iff.1 rfl
    have h1' : decide ((n : Int) < 0) = false := by simp
    have hfin : ∀ w : World, ProdIs w w (.returned (.slice none 0 0)) (X * 0) := fun w => ⟨_, 0, rfl, ⟨by simp, fun h => absurd h (by omega)⟩, by omega, .inl ⟨rfl, by simp, rfl⟩, Below.refl _ _⟩
    have HF := Lib.hid hfin
    clear hX hY hk h1 hfin
    by_cases hn0 : n = 0
    · subst hn0
      go_enter_defers Tryz.func175, Tryz.ntmps175
      go_wp2
      exact ⟨_, results_tmp rfl _ _ _, HF.out _⟩
    · have e2 : ((n : Int) == 0) = false := by simp; omega
      go_enter_defers Tryz.func175, Tryz.ntmps175
      go_wp2
      exact ⟨_, results_tmp rfl _ _ _, HF.out _⟩
  · have e2 : ((n : Int) == 0) = false := by simp; omega
    have e3 : ((m : Int) == 0) = false := by simp; omega
    rcases hX.2.2 with ⟨h, _⟩ | ⟨hn0, gx, px, cx, hs, hgx, hcx⟩
    · omega
    rcases hY.2.2 with ⟨h, _⟩ | ⟨hm00, gy, py, cy, ht, hgy, hcy⟩
    · omega
    injection hs with hs1 hs2 hs3
    injection ht with ht1 ht2 ht3
    subst hs1 hs3 ht1 ht3
    have HCX := Lib.hid hcx; have HCY := Lib.hid hcy
    have HNX := Lib.hid hX.1; have HNY := Lib.hid hY.1
    by_cases hm1 : m = 1
    · subst hm1
      have hy1 : w.cell? ⟨gy, py, none⟩ = some (.int .u64 (wd Y 0)) := hcy 0 (by omega)
      have hy2 : wd Y 0 = Y := by have := hY.1.1; unfold wd; simp; omega
      rw [hy2] at hy1
      have hY0 : 0 < Y := by
        rcases Nat.eq_zero_or_pos Y with h | h
        · have := hY.1.zero_iff.2 h; omega
        · exact h
      have HM := Lib.hid (mulAddWW_any gx px sc n X Y w hn0 (by omega) hX.1.1 hgx hY0 (by have h := hY.1.1; rw [show (2 : Nat) ^ (64 * 1) = 18446744073709551616 by decide] at h; exact h) hcx)
      clear hX hY hk hcx hcy hy2
      go_enter_defers Tryz.func175, Tryz.ntmps175
      go_wp2_with fail
      refine HM.out.mono ?_
      rintro e w2 ⟨l, c, rfl, hN, hl, hlc, hc5, hb, f, hr, hf⟩
      have H := Lib.hid (And.intro hN (And.intro hb (And.intro hr hf)))
      clear hN hb hr hf
      go_wp2
      refine ⟨_, results_tmp rfl _ _ _, _, l, rfl, H.out.1, by omega, ?_, H.out.2.1⟩
      by_cases hl0 : l = 0
      · have h0 := H.out.1.zero_iff.1 hl0
        exact absurd (Nat.mul_pos (show 0 < X by
          rcases Nat.eq_zero_or_pos X with h | h
          · have := HNX.out.zero_iff.2 h; omega
          · exact h) hY0) (by rw [h0]; exact Nat.lt_irrefl 0)
      · exact .inr ⟨by omega, H.out.1.1, w.heap.size, c, f, rfl, Nat.le_refl _, hlc, by omega, H.out.2.2.1, H.out.2.2.2⟩
    · have e4 : ((m : Int) == 1) = false := by simp; omega
      have hk2 : w.cell? ⟨2, 0, none⟩ = some (.int .i64 40) := hk
      clear hX hY hcx hcy
      go_enter_defers Tryz.func175, Tryz.ntmps175
      go_wp2_with fail
      refine (alias_nil _ _ _ _).mono ?_
      rintro e w1 ⟨rfl, k1, rfl⟩
      go_wp2_with fail
      refine (alias_nil _ _ _ _).mono ?_
      rintro e w2 ⟨rfl, k2, rfl⟩
      go_wp2_with fail
      obtain ⟨w3, hw3⟩ : ∃ w3, w3 = w.drewN (k1 + k2) := ⟨_, rfl⟩
      rw [← hw3]
      have hh3 : w3.heap = w.heap := by rw [hw3]; rfl
      have hb3 : Below w.heap.size w w3 := by rw [hw3]; exact ⟨rfl, rfl, rfl, Nat.le_refl _, fun _ _ => rfl⟩
      have hmk := make_gt none 0 0 (n + m) w3 (by omega) (by omega)
      rw [Int.natCast_add] at hmk
      have HMK := Lib.hid hmk
      have HB3 := Lib.hid hb3; have HH3 := Lib.hid hh3
      have hz3 : w3.heap.size = w.heap.size := by rw [hh3]
      have HZ3 := Lib.hid hz3
      clear hw3 hh3 hb3 hmk hz3
      refine HMK.out.mono ?_
      rintro e w' ⟨c, hc1, ⟨hc2, _⟩, rfl, rfl⟩
      have hrow := Row.made w3 228 c (.int .u64 0)
      obtain ⟨w4, hw4⟩ : ∃ w4, w4 = w3.alloc (.cells (madeCells #[.int .u64 0] c) 228) := ⟨_, rfl⟩
      rw [← hw4] at hrow ⊢
      have hb4 : Below w.heap.size w w4 := by rw [hw4]; exact HB3.out.alloc (by have := HZ3.out; omega) _
      have hk4 : w4.cell? ⟨2, 0, none⟩ = some (.int .i64 40) := KT.below hk hb4
      have hz4 : w4.heap.size = w.heap.size + 1 := by rw [hw4]; have := HZ3.out; simp; omega
      obtain ⟨g, hg⟩ : ∃ g, g = w3.heap.size := ⟨_, rfl⟩
      rw [← hg] at hrow ⊢
      have hgw : g = w.heap.size := by rw [hg, HZ3.out]
      have HBM := Lib.hid (basicMul_any g c c gx px sc n X gy py tc m Y _ w4 hrow (by omega) (by omega) (by omega) (by omega) hn0 hm00 (by omega) (by omega) hc1 hc1 HNX.out.1 HNY.out.1 (by omega)
        (fun i hi => (hb4.cell (p := ⟨gx, px + i, none⟩) hgx).trans (HCX.out i hi)) (fun i hi => (hb4.cell (p := ⟨gy, py + i, none⟩) hgy).trans (HCY.out i hi)))
      have HB4 := Lib.hid hb4; have HG := Lib.hid hgw; have HZ4 := Lib.hid hz4
      clear hw4 hrow hb4 hg hgw hz4 hk2
      go_wp2_with fail
      refine HBM.out.mono ?_
      rintro e w5 ⟨rfl, hch, f5, hr5, hf5⟩
      have hlt : X * Y < 2 ^ (64 * (n + m)) := by
        rw [show 64 * (n + m) = 64 * n + 64 * m by omega, Nat.pow_add]
        exact Nat.mul_lt_mul_of_lt_of_le HNX.out.1 (Nat.le_of_lt HNY.out.1) (Nat.two_pow_pos _)
      have HN := Lib.hid (norm_row hr5 hf5 hlt hc1 (by omega))
      have HCH := Lib.hid hch; have HR5 := Lib.hid hr5; have HF5 := Lib.hid hf5
      clear hch hr5 hf5 hlt
      go_wp2_with fail
      refine HN.out.mono ?_
      rintro e w6 ⟨⟨l, hl, hNl, rfl⟩, rfl⟩
      have HNL := Lib.hid hNl
      clear hNl
      go_wp2
      have hg := HG.out
      refine ⟨_, results_tmp rfl _ _ _, _, l, rfl, HNL.out, by omega, ?_, Chg.below HB4.out HB4.out.size HCH.out.1 (by omega)⟩
      by_cases hl0 : l = 0
      · have h0 := HNL.out.zero_iff.1 hl0
        have hX0 : 0 < X := by
          rcases Nat.eq_zero_or_pos X with h | h
          · have := HNX.out.zero_iff.2 h; omega
          · exact h
        have hY0 : 0 < Y := by
          rcases Nat.eq_zero_or_pos Y with h | h
          · have := HNY.out.zero_iff.2 h; omega
          · exact h
        exact absurd (Nat.mul_pos hX0 hY0) (by rw [h0]; exact Nat.lt_irrefl 0)
      · exact .inr ⟨by omega, HNL.out.1, g, c, f5, rfl, by omega, by omega, by omega, HR5.out, fun i hi => HF5.out i (by omega)⟩

theorem mul_any (st : Option Addr) (n m X Y : Nat) (s t : Value) (w : World) (hX : Words w s n X) (hY : Words w t m Y) (hn : n ≤ 1048576) (hm : m ≤ 1048576) (h39 : n ≤ 39 ∨ m ≤ 39) (hk : KT w) :
    Calls Tryz.prog 175 #[.slice none 0 0, .pointer st, s, t] w fun e w' => ProdIs w w' e (X * Y) := by
  by_cases hnm : m ≤ n
  · exact mul_ge st n m X Y s t w hX hY hnm hn (by omega) hk
  · have H := Lib.hid (mul_ge st m n Y X t s w hY hX (by omega) hm (by omega) hk)
    rw [Nat.mul_comm] at H
    obtain ⟨sa, sc, rfl⟩ := hX.shape
    obtain ⟨ta, tc, rfl⟩ := hY.shape
    have h1 : decide ((n : Int) < (m : Int)) = true := by simp; omega
    clear hX hY hk
    go_enter_defers Tryz.func175, Tryz.ntmps175
    go_wp2_with fail
    refine H.out.mono ?_
    rintro e w2 ⟨s', l, rfl, h⟩
    have HH := Lib.hid h; clear h
    go_wp2
    exact ⟨_, results_tmp rfl _ _ _, s', l, rfl, HH.out⟩

end Go.Proofs.YtgohhebffcldeaaGreatDoor
