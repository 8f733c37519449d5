import Derived.Test.YtjkmppdmejgjiaaGreatDoorEz14
import Derived.Test.YtjkmppdmejgjiaaGreatDoorEz10
/- Walks: Rat.SetFloat64 of a float that is whole and at least 2^63. -/
set_option linter.unusedVariables false
set_option linter.unusedSimpArgs false
namespace Go.Proofs.YtjkmppdmejgjiaaGreatDoor
open Go.RowKit
open Num

set_option maxRecDepth 100000 in
set_option maxHeartbeats 400000 in
theorem SetFloat64_big (rb B k : Nat) (hB : B < 18446744073709551616) (hf : fexp B ≠ 2047) (hk : fplace B = (k : Int)) (hk11 : 11 ≤ k) (w : World)
    (hz : w.heap[rb]? = some (.cells #[.bool false, .slice none 0 0, .bool false, .slice none 0 0] 171 (0, 0))) :
    Calls Tryz.prog 79 #[.pointer (some ⟨rb, 0, none⟩), .float .f64 B] w fun e w' => e = .returned (.pointer (some ⟨rb, 0, none⟩)) ∧ ∃ gx cx gy cy n f f2, w'.heap[rb]? = some (.cells #[.bool (fneg B), .slice (some ⟨gx, 0, none⟩) n cx, .bool false, .slice (some ⟨gy, 0, none⟩) 1 cy] 171 (0, 0)) ∧
      Nw n (fman B * 2 ^ k) ∧ 0 < n ∧ n ≤ 1024 ∧ n ≤ cx ∧ 1 ≤ cy ∧ w.heap.size ≤ gx ∧ w.heap.size ≤ gy ∧ Row w' gx 195 cx f ∧ (∀ i, i < n → f i = .int .u64 (wd (fman B * 2 ^ k) i)) ∧ Row w' gy 195 cy f2 ∧ f2 0 = .int .u64 1 ∧ Chg rb w w' := by
  have hx := fexp_lt B
  have hM := fman_lt B
  have hMh := fplace_hi (B := B) (by omega)
  have hex : fexp B ≠ 0 := fun h => by unfold fplace at hk; rw [if_pos h] at hk; omega
  have hfm : fman B = ffrac B + 4503599627370496 := by unfold fman; rw [if_neg hex]
  have hfp : (fexp B : Int) = (k : Int) + 1075 := by unfold fplace at hk; rw [if_neg hex] at hk; omega
  have hk2 : k ≤ 971 := by omega
  have h1 : bits .and .u64 ((B : Int) / 4503599627370496) 2047 = (fexp B : Int) := by
    have := and_2047 (B / 4503599627370496) (by omega)
    rw [Int.natCast_ediv] at this
    exact this
  have h2 : bits .and .u64 (B : Int) 4503599627370495 = (ffrac B : Int) := and_frac B hB
  have h4 : bits .or .u64 (ffrac B : Int) 4503599627370496 = (fman B : Int) := by rw [hfm]; exact or_hidden _ (ffrac_lt B)
  have htb := run_tobits B
  obtain ⟨x, hxx⟩ : ∃ x, bits .and .u64 (fman B : Int) 1 = x := ⟨_, rfl⟩
  have hlt : (FloatKind.f64.format.order B 0 == some .lt) = fneg B := lt_zero B hB hf (by omega)
  have lr := (Array.getElem?_eq_some_iff.1 hz).1
  have HSU := Lib.hid (SetUint64_own rb 0 (fman B) _ 171 false w (by omega) (by omega) hz rfl rfl)
  have e1 : ((fexp B : Int) == 2047) = false := by rw [beq_eq_false_iff_ne]; omega
  have e2 : ((fexp B : Int) == 0) = false := by rw [beq_eq_false_iff_ne]; omega
  have e3 : (52 : Int) - ((fexp B : Int) - 1023) = -(k : Int) := by omega
  have hxb : (fexp B : Int) ≤ 2047 := by omega
  have HFM := Lib.hid hfm; have HMH := Lib.hid hMh; have HM := Lib.hid hM
  clear hex hfm hfp hk hMh hf hM hx
  rcases Bool.eq_false_or_eq_true (x == 0) with hx0 | hx0
  all_goals (
    go_enter Tryz.func79, Tryz.ntmps79
    go_wp2_with fail
    refine wp_loop_rounds 1 ?_
    rw [rounds_succ]
    go_wp2_with fail
    refine HSU.out.mono ?_
    rintro e w2 ⟨rfl, f2, hh2, hch2, hrow2, hf2⟩
    have hh2' : w2.heap[rb]? = some (.cells #[.bool false, .slice (some ⟨w.heap.size, 0, none⟩) 1 1, .bool false, .slice none 0 0] 171 (0, 0)) := hh2
    have y0 := (cell_of_row w2 _ 0 _ _ (0, 0) hh2').trans rfl
    have g2 : ∀ i, w2.frozen? ⟨rb, i, none⟩ = false := fun i => by simp [World.frozen?, hh2']
    have HH2 := Lib.hid hh2'; have HCH2 := Lib.hid hch2; have HROW2 := Lib.hid hrow2; have HF2 := Lib.hid hf2
    clear hh2 hh2' hch2 hrow2 hf2
    go_wp2_with fail
    obtain ⟨w3, hw3⟩ : ∃ w3, w3 = w2.setCell ⟨rb, 0, none⟩ (.bool (fneg B)) := ⟨_, rfl⟩
    rw [← hw3]
    have hh3 : w3.heap[rb]? = some (.cells #[.bool (fneg B), .slice (some ⟨w.heap.size, 0, none⟩) 1 1, .bool false, .slice none 0 0] 171 (0, 0)) := by rw [hw3]; exact set1 (i := 0) (x := .bool (fneg B)) HH2.out
    have hch3 : Chg rb w w3 := by rw [hw3]; exact HCH2.out.set _ _
    have hrow3 : Row w3 w.heap.size 195 1 f2 := by rw [hw3]; exact HROW2.out.far (by show w.heap.size ≠ rb; omega) _
    have hs3 : w.heap.size < w3.heap.size := hrow3.lt
    obtain ⟨O1, hO1⟩ : ∃ O1, O1 = Obj.cells #[.int .u64 1] 195 := ⟨_, rfl⟩
    obtain ⟨O2, hO2⟩ : ∃ O2, O2 = Obj.cells #[.bool false, .slice (some ⟨w3.heap.size, 0, none⟩) 1 1] 159 := ⟨_, rfl⟩
    have hI := intOne_any w3.drew
    rw [show w3.drew.heap.size = w3.heap.size from rfl, ← hO1, ← hO2] at hI
    obtain ⟨w4, hw4⟩ : ∃ w4, w4 = (w3.drew.alloc O1).alloc O2 := ⟨_, rfl⟩
    rw [← hw4] at hI
    have hb34 : Below w3.heap.size w3 w4 := by rw [hw4]; exact below_undrew ((((Below.refl w3.drew.heap.size w3.drew).alloc (Nat.le_refl _) _).alloc (by simp) _))
    have hI4 : w4.heap[w3.heap.size + 1]? = some (.cells #[.bool false, .slice (some ⟨w3.heap.size, 0, none⟩) 1 1] 159 (0, 0)) := by rw [hw4, hO2]; exact heap2_1 w3.drew _ _
    have hk4 : w4.cell? ⟨w3.heap.size, 0 + 0, none⟩ = some (.int .u64 1) := by rw [hw4, hO1]; exact (cell_of_row _ _ 0 _ _ (0, 0) (heap2_0 w3.drew _ _)).trans rfl
    have hs4 : w4.heap.size = w3.heap.size + 2 := by rw [hw4]; simp
    have hh4 := (hb34.block rb (by have := hch3.size; omega)).trans hh3
    have HSET := Lib.hid (Int_Set_some rb 2 (w3.heap.size + 1) 0 w3.heap.size 0 1 1 1 _ _ _ _ false false w4 (by decide) (by omega) (by omega) (by omega) hh4 hI4 rfl rfl rfl rfl (by have := hch3.size; omega) (fun i hi => by
      obtain rfl : i = 0 := by omega
      exact hk4))
    have HI := Lib.hid hI
    have HB34 := Lib.hid hb34; have HS4 := Lib.hid hs4; have HCH3 := Lib.hid hch3; have HROW3 := Lib.hid hrow3; have HH4 := Lib.hid hh4; have HS3 := Lib.hid hs3
    clear hw3 hh3 hch3 hrow3 hO1 hO2 hI hw4 hb34 hI4 hk4 hs4 hh4 y0 g2 hs3
    go_region_law (first | (go_simp; go_at_call 103; refine HI.out.mono ?_; rintro e w4' ⟨rfl, hww⟩; subst hww) | (go_simp; go_at_call 86; refine HSET.out.mono ?_; rintro e w5 ⟨rfl, s5, hnew, hch5, hh5⟩; have HNEW := Lib.hid hnew; have HCH5 := Lib.hid hch5; have HH5 := Lib.hid hh5; clear hnew hch5 hh5))
    all_goals go_wp2_with fail
    all_goals (
      rcases HNEW.out with ⟨h, _⟩ | ⟨_, _, g5, c5, f5, rfl, hg5, hc5, hc5', hr5, hf5⟩
      · omega
      have hh5 : w5.heap[rb]? = some (.cells #[.bool (fneg B), .slice (some ⟨w.heap.size, 0, none⟩) 1 1, .bool false, .slice (some ⟨g5, 0, none⟩) 1 c5] 171 (0, 0)) := HH5.out
      have hs3 := HS3.out
      have hs4 := HS4.out
      have hrow5 : Row w5 w.heap.size 195 1 f2 := (HROW3.out.below HB34.out hs3).chg HCH5.out (by omega)
      have hch35 : Chg rb w w5 := by
        have c3 := HCH3.out
        have b := HB34.out
        have c5 := HCH5.out
        exact ⟨c5.os.trans (b.os.trans c3.os), c5.tape.trans (b.tape.trans c3.tape), c5.output.trans (b.output.trans c3.output), Nat.le_trans c3.size (Nat.le_trans b.size c5.size), fun i hi hg => (c5.block i (by have := c3.size; omega) hg).trans ((b.block i (by have := c3.size; omega)).trans (c3.block i hi hg))⟩
      have hwd : wd (fman B) 0 = fman B := by have := HM.out; unfold wd; simp; omega
      have hL := IntLsh_own rb 0 w.heap.size 1 1 (fman B) k _ _ (fneg B) w5.drew (by have := HMH.out; omega) (by omega) (by omega) (by omega) (by omega) (by omega) (by have := HM.out; omega) hrow5.lt (fun i hi => by
        obtain rfl : i = 0 := by omega
        rw [hwd]
        show w5.cell? _ = _
        rw [Nat.add_zero, hrow5.cell (by omega), HF2.out]) hh5 rfl rfl
      have HL := Lib.hid hL
      have hwk1 : IntKind.i64.wrap (k : Int) = (k : Int) := by simp only [IntKind.wrap_i64]; omega
      have hwk2 : IntKind.u64.wrap (k : Int) = (k : Int) := by simp only [IntKind.wrap_u64]; omega
      have HC35 := Lib.hid hch35; have HR5 := Lib.hid hr5; have HF5 := Lib.hid hf5; have HC5 := Lib.hid hc5
      have HG5 := Lib.hid (show w.heap.size ≤ g5 ∧ g5 ≠ rb ∧ g5 < w5.heap.size by refine ⟨by omega, by have := HCH3.out.size; omega, hr5.lt⟩)
      clear hh5 hrow5 hch35 hwd hL hr5 hf5 hs3 hs4
      go_region_law (first | (go_simp; go_at_call 104; refine HL.out.mono ?_; rintro e w6 ⟨rfl, m, hN, hm, s6, hnew6, hch6, hh6⟩; have HN := Lib.hid hN; have HNEW6 := Lib.hid hnew6; have HCH6 := Lib.hid hch6; have HH6 := Lib.hid hh6; clear hN hnew6 hch6 hh6))
      all_goals go_wp2_with fail
      all_goals (
        have hVp : 0 < fman B * 2 ^ k := Nat.mul_pos (by have := HMH.out; omega) (Nat.two_pow_pos k)
        rcases HNEW6.out with ⟨h, h', _⟩ | ⟨hm0, hVm, g6, c6, f6, rfl, hg6, hc6, hc6', hr6, hf6⟩
        · omega
        have hm16 : m ≤ 1024 := by
          have h1 := HN.out.2 hm0
          obtain ⟨E, hE⟩ : ∃ E, E = 971 := ⟨_, rfl⟩
          have hM53 : fman B < 2 ^ 53 := by have := HM.out; simpa using this
          have h2 : fman B * 2 ^ k < 2 ^ 53 * 2 ^ E := Nat.mul_lt_mul_of_lt_of_le hM53 (Nat.pow_le_pow_right (by omega) (by omega)) (Nat.two_pow_pos _)
          rw [← Nat.pow_add] at h2
          have h3 := (Nat.pow_lt_pow_iff_right (by omega : 1 < 2)).1 (Nat.lt_of_le_of_lt h1 h2)
          omega
        have hh6 : w6.heap[rb]? = some (.cells #[.bool (fneg B), .slice (some ⟨g6, 0, none⟩) m c6, .bool false, .slice (some ⟨g5, 0, none⟩) 1 c5] 171 (0, 0)) := HH6.out
        have hw56 : w5.heap.size ≤ w6.heap.size := HCH6.out.size
        have hg6' : w5.heap.size ≤ g6 := hg6
        have hwr : rb < w5.heap.size := Nat.lt_of_lt_of_le lr HC35.out.size
        have hr56 : Row w6 g5 195 c5 f5 := HR5.out.keep (HCH6.out.block g5 HG5.out.2.2 HG5.out.2.1)
        have hf50 : f5 0 = .int .u64 1 := by rw [HF5.out 0 (by omega)]; rfl
        have hch6 : Chg rb w w6 := ⟨HCH6.out.os.trans HC35.out.os, HCH6.out.tape.trans HC35.out.tape, HCH6.out.output.trans HC35.out.output, Nat.le_trans HC35.out.size hw56, fun i hi hg => (HCH6.out.block i (Nat.lt_of_lt_of_le hi HC35.out.size) hg).trans (HC35.out.block i hi hg)⟩
        have hNO := norm_one rb g6 c6 g5 c5 m (fman B * 2 ^ k) (fneg B) false w6 hm0 (by omega) hVm hVp hr6.lt hr56.lt (by omega) HG5.out.2.1 hh6 (fun i hi => by rw [Nat.zero_add, hr6.cell (by omega), hf6 i hi]) (by rw [hr56.cell (by have := HC5.out; omega), hf50])
        have HNO := Lib.hid hNO
        have HH := Lib.hid hr6; have HF6 := Lib.hid hf6; have HR56 := Lib.hid hr56; have HF50 := Lib.hid hf50; have HCC := Lib.hid hch6
        have HX := Lib.hid (show g6 ≠ rb ∧ w.heap.size ≤ g6 by refine ⟨by omega, ?_⟩; have := HC35.out.size; omega)
        have HY := Lib.hid (And.intro hm0 (And.intro hm16 hc6))
        clear hVp hVm hg6 hc6 hc6' hr6 hf6 hm16 hh6 hw56 hg6' hwr hr56 hf50 hch6 hNO hm0
        go_wp2_with fail
        refine HNO.out.mono ?_
        rintro e w7 ⟨rfl, hh7, hch7⟩
        have HH7 := Lib.hid hh7; have HCH7 := Lib.hid hch7
        clear hh7 hch7
        go_wp2
        go_ret
        exact ⟨rfl, g6, c6, g5, c5, m, f6, f5, HH7.out, HN.out, HY.out.1, HY.out.2.1, HY.out.2.2, HC5.out, HX.out.2, HG5.out.1, HH.out.chg HCH7.out HX.out.1, HF6.out, HR56.out.chg HCH7.out HG5.out.2.1, HF50.out, HCC.out.trans HCH7.out⟩)))

end Go.Proofs.YtjkmppdmejgjiaaGreatDoor

/- Walks: nat.mul of numbers of few words. -/
set_option linter.unusedVariables false
set_option linter.unusedSimpArgs false
namespace Go.Proofs.YtjkmppdmejgjiaaGreatDoor
open Go.RowKit
open Num

theorem alias_nil (a : Option Addr) (n c : Nat) (w : World) :
    Calls Tryz.prog 116 #[.slice none 0 0, .slice a n c] w fun e w' => e = .returned (.bool false) ∧ ∃ k, w' = w.drewN k := by
  go_enter Tryz.func116, Tryz.ntmps116
  go_wp2_with fail
  go_quiet (fail)
  go_wp2
  go_ret
  exact ⟨rfl, _, rfl⟩

theorem mul_ge (st : Option Addr) (n m X Y : Nat) (s t : Value) (w : World) (hX : Words w s n X) (hY : Words w t m Y) (hnm : m ≤ n) (hn : n ≤ 1048576) (hm : m ≤ 39) (hk : KT w) :
    Calls Tryz.prog 100 #[.slice none 0 0, .pointer st, s, t] w fun e w' => ProdIs w w' e (X * Y) := by
  obtain ⟨sa, sc, rfl⟩ := hX.shape
  obtain ⟨ta, tc, rfl⟩ := hY.shape
  have h1 : decide ((n : Int) < (m : Int)) = false := by simp; omega
  by_cases hm0 : m = 0
  · subst hm0
    obtain rfl : Y = 0 := hY.1.zero_iff.1 rfl
    have h1' : decide ((n : Int) < 0) = false := by simp
    have hfin : ∀ w : World, ProdIs w w (.returned (.slice none 0 0)) (X * 0) := fun w => ⟨_, 0, rfl, ⟨by simp, fun h => absurd h (by omega)⟩, by omega, .inl ⟨rfl, by simp, rfl⟩, Below.refl _ _⟩
    have HF := Lib.hid hfin
    clear hX hY hk h1 hfin
    by_cases hn0 : n = 0
    · subst hn0
      go_enter_defers Tryz.func100, Tryz.ntmps100
      go_wp2
      exact ⟨_, results_tmp rfl _ _ _, HF.out _⟩
    · have e2 : ((n : Int) == 0) = false := by simp; omega
      go_enter_defers Tryz.func100, Tryz.ntmps100
      go_wp2
      exact ⟨_, results_tmp rfl _ _ _, HF.out _⟩
  · have e2 : ((n : Int) == 0) = false := by simp; omega
    have e3 : ((m : Int) == 0) = false := by simp; omega
    rcases hX.2.2 with ⟨h, _⟩ | ⟨hn0, gx, px, cx, hs, hgx, hcx⟩
    · omega
    rcases hY.2.2 with ⟨h, _⟩ | ⟨hm00, gy, py, cy, ht, hgy, hcy⟩
    · omega
    injection hs with hs1 hs2 hs3
    injection ht with ht1 ht2 ht3
    subst hs1 hs3 ht1 ht3
    have HCX := Lib.hid hcx; have HCY := Lib.hid hcy
    have HNX := Lib.hid hX.1; have HNY := Lib.hid hY.1
    by_cases hm1 : m = 1
    · subst hm1
      have hy1 : w.cell? ⟨gy, py, none⟩ = some (.int .u64 (wd Y 0)) := hcy 0 (by omega)
      have hy2 : wd Y 0 = Y := by have := hY.1.1; unfold wd; simp; omega
      rw [hy2] at hy1
      have hY0 : 0 < Y := by
        rcases Nat.eq_zero_or_pos Y with h | h
        · have := hY.1.zero_iff.2 h; omega
        · exact h
      have HM := Lib.hid (mulAddWW_any gx px sc n X Y w hn0 (by omega) hX.1.1 hgx hY0 (by have h := hY.1.1; rw [show (2 : Nat) ^ (64 * 1) = 18446744073709551616 by decide] at h; exact h) hcx)
      clear hX hY hk hcx hcy hy2
      go_enter_defers Tryz.func100, Tryz.ntmps100
      go_wp2_with fail
      refine HM.out.mono ?_
      rintro e w2 ⟨l, c, rfl, hN, hl, hlc, hc5, hb, f, hr, hf⟩
      have H := Lib.hid (And.intro hN (And.intro hb (And.intro hr hf)))
      clear hN hb hr hf
      go_wp2
      refine ⟨_, results_tmp rfl _ _ _, _, l, rfl, H.out.1, by omega, ?_, H.out.2.1⟩
      by_cases hl0 : l = 0
      · have h0 := H.out.1.zero_iff.1 hl0
        exact absurd (Nat.mul_pos (show 0 < X by
          rcases Nat.eq_zero_or_pos X with h | h
          · have := HNX.out.zero_iff.2 h; omega
          · exact h) hY0) (by rw [h0]; exact Nat.lt_irrefl 0)
      · exact .inr ⟨by omega, H.out.1.1, w.heap.size, c, f, rfl, Nat.le_refl _, hlc, by omega, H.out.2.2.1, H.out.2.2.2⟩
    · have e4 : ((m : Int) == 1) = false := by simp; omega
      have hk2 : w.cell? ⟨2, 0, none⟩ = some (.int .i64 40) := hk
      clear hX hY hcx hcy
      go_enter_defers Tryz.func100, Tryz.ntmps100
      go_wp2_with fail
      refine (alias_nil _ _ _ _).mono ?_
      rintro e w1 ⟨rfl, k1, rfl⟩
      go_wp2_with fail
      refine (alias_nil _ _ _ _).mono ?_
      rintro e w2 ⟨rfl, k2, rfl⟩
      go_wp2_with fail
      obtain ⟨w3, hw3⟩ : ∃ w3, w3 = w.drewN (k1 + k2) := ⟨_, rfl⟩
      rw [← hw3]
      have hh3 : w3.heap = w.heap := by rw [hw3]; rfl
      have hb3 : Below w.heap.size w w3 := by rw [hw3]; exact ⟨rfl, rfl, rfl, Nat.le_refl _, fun _ _ => rfl⟩
      have hmk := make_gt none 0 0 (n + m) w3 (by omega) (by omega)
      rw [Int.natCast_add] at hmk
      have HMK := Lib.hid hmk
      have HB3 := Lib.hid hb3; have HH3 := Lib.hid hh3
      have hz3 : w3.heap.size = w.heap.size := by rw [hh3]
      have HZ3 := Lib.hid hz3
      clear hw3 hh3 hb3 hmk hz3
      refine HMK.out.mono ?_
      rintro e w' ⟨c, hc1, ⟨hc2, _⟩, rfl, rfl⟩
      have hrow := Row.made w3 195 c (.int .u64 0)
      obtain ⟨w4, hw4⟩ : ∃ w4, w4 = w3.alloc (.cells (madeCells #[.int .u64 0] c) 195) := ⟨_, rfl⟩
      rw [← hw4] at hrow ⊢
      have hb4 : Below w.heap.size w w4 := by rw [hw4]; exact HB3.out.alloc (by have := HZ3.out; omega) _
      have hk4 : w4.cell? ⟨2, 0, none⟩ = some (.int .i64 40) := KT.below hk hb4
      have hz4 : w4.heap.size = w.heap.size + 1 := by rw [hw4]; have := HZ3.out; simp; omega
      obtain ⟨g, hg⟩ : ∃ g, g = w3.heap.size := ⟨_, rfl⟩
      rw [← hg] at hrow ⊢
      have hgw : g = w.heap.size := by rw [hg, HZ3.out]
      have HBM := Lib.hid (basicMul_any g c c gx px sc n X gy py tc m Y _ w4 hrow (by omega) (by omega) (by omega) (by omega) hn0 hm00 (by omega) (by omega) hc1 hc1 HNX.out.1 HNY.out.1 (by omega)
        (fun i hi => (hb4.cell (p := ⟨gx, px + i, none⟩) hgx).trans (HCX.out i hi)) (fun i hi => (hb4.cell (p := ⟨gy, py + i, none⟩) hgy).trans (HCY.out i hi)))
      have HB4 := Lib.hid hb4; have HG := Lib.hid hgw; have HZ4 := Lib.hid hz4
      clear hw4 hrow hb4 hg hgw hz4 hk2
      go_wp2_with fail
      refine HBM.out.mono ?_
      rintro e w5 ⟨rfl, hch, f5, hr5, hf5⟩
      have hlt : X * Y < 2 ^ (64 * (n + m)) := by
        rw [show 64 * (n + m) = 64 * n + 64 * m by omega, Nat.pow_add]
        exact Nat.mul_lt_mul_of_lt_of_le HNX.out.1 (Nat.le_of_lt HNY.out.1) (Nat.two_pow_pos _)
      have HN := Lib.hid (norm_row hr5 hf5 hlt hc1 (by omega))
      have HCH := Lib.hid hch; have HR5 := Lib.hid hr5; have HF5 := Lib.hid hf5
      clear hch hr5 hf5 hlt
      go_wp2_with fail
      refine HN.out.mono ?_
      rintro e w6 ⟨⟨l, hl, hNl, rfl⟩, rfl⟩
      have HNL := Lib.hid hNl
      clear hNl
      go_wp2
      have hg := HG.out
      refine ⟨_, results_tmp rfl _ _ _, _, l, rfl, HNL.out, by omega, ?_, Chg.below HB4.out HB4.out.size HCH.out.1 (by omega)⟩
      by_cases hl0 : l = 0
      · have h0 := HNL.out.zero_iff.1 hl0
        have hX0 : 0 < X := by
          rcases Nat.eq_zero_or_pos X with h | h
          · have := HNX.out.zero_iff.2 h; omega
          · exact h
        have hY0 : 0 < Y := by
          rcases Nat.eq_zero_or_pos Y with h | h
          · have := HNY.out.zero_iff.2 h; omega
          · exact h
        exact absurd (Nat.mul_pos hX0 hY0) (by rw [h0]; exact Nat.lt_irrefl 0)
      · exact .inr ⟨by omega, HNL.out.1, g, c, f5, rfl, by omega, by omega, by omega, HR5.out, fun i hi => HF5.out i (by omega)⟩

theorem mul_any (st : Option Addr) (n m X Y : Nat) (s t : Value) (w : World) (hX : Words w s n X) (hY : Words w t m Y) (hn : n ≤ 1048576) (hm : m ≤ 1048576) (h39 : n ≤ 39 ∨ m ≤ 39) (hk : KT w) :
    Calls Tryz.prog 100 #[.slice none 0 0, .pointer st, s, t] w fun e w' => ProdIs w w' e (X * Y) := by
  by_cases hnm : m ≤ n
  · exact mul_ge st n m X Y s t w hX hY hnm hn (by omega) hk
  · have H := Lib.hid (mul_ge st m n Y X t s w hY hX (by omega) hm (by omega) hk)
    rw [Nat.mul_comm] at H
    obtain ⟨sa, sc, rfl⟩ := hX.shape
    obtain ⟨ta, tc, rfl⟩ := hY.shape
    have h1 : decide ((n : Int) < (m : Int)) = true := by simp; omega
    clear hX hY hk
    go_enter_defers Tryz.func100, Tryz.ntmps100
    go_wp2_with fail
    refine H.out.mono ?_
    rintro e w2 ⟨s', l, rfl, h⟩
    have HH := Lib.hid h; clear h
    go_wp2
    exact ⟨_, results_tmp rfl _ _ _, s', l, rfl, HH.out⟩

end Go.Proofs.YtjkmppdmejgjiaaGreatDoor
