/- Walks: Rat.SetFloat64 of a float that is whole and at least 2^63. -/
import Derived.Test.YtgohhebffcldeaaGreatDoorNorm
set_option linter.unusedVariables false
set_option linter.unusedSimpArgs false
namespace Go.Proofs.YtgohhebffcldeaaGreatDoor
open Go.RowKit
open Num

theorem read_zero : Ieee.double.read 0 = .number false 0 (-1074) := by decide
theorem lt_zero (B : Nat) (hB : B < 18446744073709551616) (hf : fexp B ≠ 2047) (hM : 0 < fman B) : (Ieee.double.order B 0 == some .lt) = fneg B := by
  unfold Ieee.Format.order
  rw [read_double B hB hf, read_zero, signed_cmp]
  cases hn : fneg B
  · rw [signed_false, signed_false, Nat.zero_mul]
    have : compare ((fman B * 2 ^ (fplace B - min (fplace B) (-1074)).toNat : Nat) : Int) ((0 : Nat) : Int) ≠ .lt := by
      intro h
      rw [Int.compare_eq_lt] at h
      have := Int.natCast_nonneg (fman B * 2 ^ (fplace B - min (fplace B) (-1074)).toNat)
      omega
    revert this
    generalize compare ((fman B * 2 ^ (fplace B - min (fplace B) (-1074)).toNat : Nat) : Int) ((0 : Nat) : Int) = c
    intro this
    cases c <;> simp_all
  · rw [signed_true, signed_false, Nat.zero_mul]
    have hp : 0 < fman B * 2 ^ (fplace B - min (fplace B) (-1074)).toNat := Nat.mul_pos hM (Nat.two_pow_pos _)
    have : compare (-((fman B * 2 ^ (fplace B - min (fplace B) (-1074)).toNat : Nat) : Int)) ((0 : Nat) : Int) = .lt := by
      rw [Int.compare_eq_lt]
      generalize fman B * 2 ^ (fplace B - min (fplace B) (-1074)).toNat = x at *
      omega
    rw [this]; rfl

set_option maxRecDepth 100000 in
set_option maxHeartbeats 400000 in
theorem SetFloat64_big (rb B k : Nat) (hB : B < 18446744073709551616) (hf : fexp B ≠ 2047) (hk : fplace B = (k : Int)) (hk11 : 11 ≤ k) (w : World)
    (hz : w.heap[rb]? = some (.cells #[.bool false, .slice none 0 0, .bool false, .slice none 0 0] 219 (0, 0))) :
    Calls Tryz.prog 152 #[.pointer (some ⟨rb, 0, none⟩), .float .f64 B] w fun e w' => e = .returned (.pointer (some ⟨rb, 0, none⟩)) ∧ ∃ gx cx gy cy n f f2, w'.heap[rb]? = some (.cells #[.bool (fneg B), .slice (some ⟨gx, 0, none⟩) n cx, .bool false, .slice (some ⟨gy, 0, none⟩) 1 cy] 219 (0, 0)) ∧
      Nw n (fman B * 2 ^ k) ∧ 0 < n ∧ n ≤ 1024 ∧ n ≤ cx ∧ 1 ≤ cy ∧ w.heap.size ≤ gx ∧ w.heap.size ≤ gy ∧ Row w' gx 228 cx f ∧ (∀ i, i < n → f i = .int .u64 (wd (fman B * 2 ^ k) i)) ∧ Row w' gy 228 cy f2 ∧ f2 0 = .int .u64 1 ∧ Chg rb w w' := by
  have hx := fexp_lt B
  have hM := fman_lt B
  have hMh := fplace_hi (B := B) (by omega)
  have hex : fexp B ≠ 0 := fun h => by unfold fplace at hk; rw [if_pos h] at hk; omega
  have hfm : fman B = ffrac B + 4503599627370496 := by unfold fman; rw [if_neg hex]
  have hfp : (fexp B : Int) = (k : Int) + 1075 := by unfold fplace at hk; rw [if_neg hex] at hk; omega
  have hk2 : k ≤ 971 := by omega
  have h1 : bits .and .u64 ((B : Int) / 4503599627370496) 2047 = (fexp B : Int) := by
    have := and_2047 (B / 4503599627370496) (by omega)
    rw [Int.natCast_ediv] at this
    exact this
  have h2 : bits .and .u64 (B : Int) 4503599627370495 = (ffrac B : Int) := and_frac B hB
  have h4 : bits .or .u64 (ffrac B : Int) 4503599627370496 = (fman B : Int) := by rw [hfm]; exact or_hidden _ (ffrac_lt B)
  have htb := run_tobits B
  obtain ⟨x, hxx⟩ : ∃ x, bits .and .u64 (fman B : Int) 1 = x := ⟨_, rfl⟩
  have hlt : (FloatKind.f64.format.order B 0 == some .lt) = fneg B := lt_zero B hB hf (by omega)
  have lr := (Array.getElem?_eq_some_iff.1 hz).1
  have HSU := Lib.hid (SetUint64_own rb 0 (fman B) _ 219 false w (by omega) (by omega) hz rfl rfl)
  have e1 : ((fexp B : Int) == 2047) = false := by rw [beq_eq_false_iff_ne]; omega
  have e2 : ((fexp B : Int) == 0) = false := by rw [beq_eq_false_iff_ne]; omega
  have e3 : (52 : Int) - ((fexp B : Int) - 1023) = -(k : Int) := by omega
  have hxb : (fexp B : Int) ≤ 2047 := by omega
  have HFM := Lib.hid hfm; have HMH := Lib.hid hMh; have HM := Lib.hid hM
  clear hex hfm hfp hk hMh hf hM hx
  rcases Bool.eq_false_or_eq_true (x == 0) with hx0 | hx0
  all_goals (
    go_enter Tryz.func152, Tryz.ntmps152
    go_wp2_with fail
    refine wp_loop_rounds 1 ?_
    rw [rounds_succ]
    go_wp2_with fail
    refine HSU.out.mono ?_
    rintro e w2 ⟨rfl, f2, hh2, hch2, hrow2, hf2⟩
    have hh2' : w2.heap[rb]? = some (.cells #[.bool false, .slice (some ⟨w.heap.size, 0, none⟩) 1 1, .bool false, .slice none 0 0] 219 (0, 0)) := hh2
    have y0 := (cell_of_row w2 _ 0 _ _ (0, 0) hh2').trans rfl
    have g2 : ∀ i, w2.frozen? ⟨rb, i, none⟩ = false := fun i => by simp [World.frozen?, hh2']
    have HH2 := Lib.hid hh2'; have HCH2 := Lib.hid hch2; have HROW2 := Lib.hid hrow2; have HF2 := Lib.hid hf2
    clear hh2 hh2' hch2 hrow2 hf2
    go_wp2_with fail
    obtain ⟨w3, hw3⟩ : ∃ w3, w3 = w2.setCell ⟨rb, 0, none⟩ (.bool (fneg B)) := ⟨_, rfl⟩
    rw [← hw3]
    have hh3 : w3.heap[rb]? = some (.cells #[.bool (fneg B), .slice (some ⟨w.heap.size, 0, none⟩) 1 1, .bool false, .slice none 0 0] 219 (0, 0)) := by rw [hw3]; exact set1 (i := 0) (x := .bool (fneg B)) HH2.out
    have hch3 : Chg rb w w3 := by rw [hw3]; exact HCH2.out.set _ _
    have hrow3 : Row w3 w.heap.size 228 1 f2 := by rw [hw3]; exact HROW2.out.far (by show w.heap.size ≠ rb; omega) _
    have hs3 : w.heap.size < w3.heap.size := hrow3.lt
    obtain ⟨O1, hO1⟩ : ∃ O1, O1 = Obj.cells #[.int .u64 1] 228 := ⟨_, rfl⟩
    obtain ⟨O2, hO2⟩ : ∃ O2, O2 = Obj.cells #[.bool false, .slice (some ⟨w3.heap.size, 0, none⟩) 1 1] 142 := ⟨_, rfl⟩
    have hI := intOne_any w3.drew
    rw [show w3.drew.heap.size = w3.heap.size from rfl, ← hO1, ← hO2] at hI
    obtain ⟨w4, hw4⟩ : ∃ w4, w4 = (w3.drew.alloc O1).alloc O2 := ⟨_, rfl⟩
    rw [← hw4] at hI
    have hb34 : Below w3.heap.size w3 w4 := by rw [hw4]; exact below_undrew ((((Below.refl w3.drew.heap.size w3.drew).alloc (Nat.le_refl _) _).alloc (by simp) _))
    have hI4 : w4.heap[w3.heap.size + 1]? = some (.cells #[.bool false, .slice (some ⟨w3.heap.size, 0, none⟩) 1 1] 142 (0, 0)) := by rw [hw4, hO2]; exact heap2_1 w3.drew _ _
    have hk4 : w4.cell? ⟨w3.heap.size, 0 + 0, none⟩ = some (.int .u64 1) := by rw [hw4, hO1]; exact (cell_of_row _ _ 0 _ _ (0, 0) (heap2_0 w3.drew _ _)).trans rfl
    have hs4 : w4.heap.size = w3.heap.size + 2 := by rw [hw4]; simp
    have hh4 := (hb34.block rb (by have := hch3.size; omega)).trans hh3
    have HSET := Lib.hid (Int_Set_some rb 2 (w3.heap.size + 1) 0 w3.heap.size 0 1 1 1 _ _ _ _ false false w4 (by decide) (by omega) (by omega) (by omega) hh4 hI4 rfl rfl rfl rfl (by have := hch3.size; omega) (fun i hi => by
      obtain rfl : i = 0 := by omega
      exact hk4))
    have HI := Lib.hid hI
    have HB34 := Lib.hid hb34; have HS4 := Lib.hid hs4; have HCH3 := Lib.hid hch3; have HROW3 := Lib.hid hrow3; have HH4 := Lib.hid hh4; have HS3 := Lib.hid hs3
    clear hw3 hh3 hch3 hrow3 hO1 hO2 hI hw4 hb34 hI4 hk4 hs4 hh4 y0 g2 hs3
    go_region_law (first | (go_simp; go_at_call 178; refine HI.out.mono ?_; rintro e w4' ⟨rfl, hww⟩; subst hww) | (go_simp; go_at_call 127; refine HSET.out.mono ?_; rintro e w5 ⟨rfl, s5, hnew, hch5, hh5⟩; have HNEW := Lib.hid hnew; have HCH5 := Lib.hid hch5; have HH5 := Lib.hid hh5; clear hnew hch5 hh5))
    all_goals go_wp2_with fail
    all_goals (
      rcases HNEW.out with ⟨h, _⟩ | ⟨_, _, g5, c5, f5, rfl, hg5, hc5, hc5', hr5, hf5⟩
      · omega
      have hh5 : w5.heap[rb]? = some (.cells #[.bool (fneg B), .slice (some ⟨w.heap.size, 0, none⟩) 1 1, .bool false, .slice (some ⟨g5, 0, none⟩) 1 c5] 219 (0, 0)) := HH5.out
      have hs3 := HS3.out
      have hs4 := HS4.out
      have hrow5 : Row w5 w.heap.size 228 1 f2 := (HROW3.out.below HB34.out hs3).chg HCH5.out (by omega)
      have hch35 : Chg rb w w5 := by
        have c3 := HCH3.out
        have b := HB34.out
        have c5 := HCH5.out
        exact ⟨c5.os.trans (b.os.trans c3.os), c5.tape.trans (b.tape.trans c3.tape), c5.output.trans (b.output.trans c3.output), Nat.le_trans c3.size (Nat.le_trans b.size c5.size), fun i hi hg => (c5.block i (by have := c3.size; omega) hg).trans ((b.block i (by have := c3.size; omega)).trans (c3.block i hi hg))⟩
      have hwd : wd (fman B) 0 = fman B := by have := HM.out; unfold wd; simp; omega
      have hL := IntLsh_own rb 0 w.heap.size 1 1 (fman B) k _ _ (fneg B) w5.drew (by have := HMH.out; omega) (by omega) (by omega) (by omega) (by omega) (by omega) (by have := HM.out; omega) hrow5.lt (fun i hi => by
        obtain rfl : i = 0 := by omega
        rw [hwd]
        show w5.cell? _ = _
        rw [Nat.add_zero, hrow5.cell (by omega), HF2.out]) hh5 rfl rfl
      have HL := Lib.hid hL
      have hwk1 : IntKind.i64.wrap (k : Int) = (k : Int) := by simp only [IntKind.wrap_i64]; omega
      have hwk2 : IntKind.u64.wrap (k : Int) = (k : Int) := by simp only [IntKind.wrap_u64]; omega
      have HC35 := Lib.hid hch35; have HR5 := Lib.hid hr5; have HF5 := Lib.hid hf5; have HC5 := Lib.hid hc5
      have HG5 := Lib.hid (show w.heap.size ≤ g5 ∧ g5 ≠ rb ∧ g5 < w5.heap.size by refine ⟨by omega, by have := HCH3.out.size; omega, hr5.lt⟩)
      clear hh5 hrow5 hch35 hwd hL hr5 hf5 hs3 hs4
      go_region_law (first | (go_simp; go_at_call 179; refine HL.out.mono ?_; rintro e w6 ⟨rfl, m, hN, hm, s6, hnew6, hch6, hh6⟩; have HN := Lib.hid hN; have HNEW6 := Lib.hid hnew6; have HCH6 := Lib.hid hch6; have HH6 := Lib.hid hh6; clear hN hnew6 hch6 hh6))
      all_goals go_wp2_with fail
      all_goals (
        have hVp : 0 < fman B * 2 ^ k := Nat.mul_pos (by have := HMH.out; omega) (Nat.two_pow_pos k)
        rcases HNEW6.out with ⟨h, h', _⟩ | ⟨hm0, hVm, g6, c6, f6, rfl, hg6, hc6, hc6', hr6, hf6⟩
        · omega
        have hm16 : m ≤ 1024 := by
          have h1 := HN.out.2 hm0
          obtain ⟨E, hE⟩ : ∃ E, E = 971 := ⟨_, rfl⟩
          have hM53 : fman B < 2 ^ 53 := by have := HM.out; simpa using this
          have h2 : fman B * 2 ^ k < 2 ^ 53 * 2 ^ E := Nat.mul_lt_mul_of_lt_of_le hM53 (Nat.pow_le_pow_right (by omega) (by omega)) (Nat.two_pow_pos _)
          rw [← Nat.pow_add] at h2
          have h3 := (Nat.pow_lt_pow_iff_right (by omega : 1 < 2)).1 (Nat.lt_of_le_of_lt h1 h2)
          omega
        have hh6 : w6.heap[rb]? = some (.cells #[.bool (fneg B), .slice (some ⟨g6, 0, none⟩) m c6, .bool false, .slice (some ⟨g5, 0, none⟩) 1 c5] 219 (0, 0)) := HH6.out
        have hw56 : w5.heap.size ≤ w6.heap.size := HCH6.out.size
        have hg6' : w5.heap.size ≤ g6 := hg6
        have hwr : rb < w5.heap.size := Nat.lt_of_lt_of_le lr HC35.out.size
        have hr56 : Row w6 g5 228 c5 f5 := HR5.out.keep (HCH6.out.block g5 HG5.out.2.2 HG5.out.2.1)
        have hf50 : f5 0 = .int .u64 1 := by rw [HF5.out 0 (by omega)]; rfl
        have hch6 : Chg rb w w6 := ⟨HCH6.out.os.trans HC35.out.os, HCH6.out.tape.trans HC35.out.tape, HCH6.out.output.trans HC35.out.output, Nat.le_trans HC35.out.size hw56, fun i hi hg => (HCH6.out.block i (Nat.lt_of_lt_of_le hi HC35.out.size) hg).trans (HC35.out.block i hi hg)⟩
        have hNO := norm_one rb g6 c6 g5 c5 m (fman B * 2 ^ k) (fneg B) false w6 hm0 (by omega) hVm hVp hr6.lt hr56.lt (by omega) HG5.out.2.1 hh6 (fun i hi => by rw [Nat.zero_add, hr6.cell (by omega), hf6 i hi]) (by rw [hr56.cell (by have := HC5.out; omega), hf50])
        have HNO := Lib.hid hNO
        have HH := Lib.hid hr6; have HF6 := Lib.hid hf6; have HR56 := Lib.hid hr56; have HF50 := Lib.hid hf50; have HCC := Lib.hid hch6
        have HX := Lib.hid (show g6 ≠ rb ∧ w.heap.size ≤ g6 by refine ⟨by omega, ?_⟩; have := HC35.out.size; omega)
        have HY := Lib.hid (And.intro hm0 (And.intro hm16 hc6))
        clear hVp hVm hg6 hc6 hc6' hr6 hf6 hm16 hh6 hw56 hg6' hwr hr56 hf50 hch6 hNO hm0
        go_wp2_with fail
        refine HNO.out.mono ?_
        rintro e w7 ⟨rfl, hh7, hch7⟩
        have HH7 := Lib.hid hh7; have HCH7 := Lib.hid hch7
        clear hh7 hch7
        go_wp2
        go_ret
        exact ⟨rfl, g6, c6, g5, c5, m, f6, f5, HH7.out, HN.out, HY.out.1, HY.out.2.1, HY.out.2.2, HC5.out, HX.out.2, HG5.out.1, HH.out.chg HCH7.out HX.out.1, HF6.out, HR56.out.chg HCH7.out HG5.out.2.1, HF50.out, HCC.out.trans HCH7.out⟩)))

end Go.Proofs.YtgohhebffcldeaaGreatDoor
