/- Walks: finiteFloatToInt of big floats, and of any finite float. -/
import Derived.Test.YtalpkahhfjkeiaaGreatDoorBig
set_option linter.unusedVariables false
set_option linter.unusedSimpArgs false
namespace Go.Proofs.YtalpkahhfjkeiaaGreatDoor
open Go.RowKit
open Num

set_option maxHeartbeats 400000 in
theorem f2i_big (B k : Nat) (hB : B < 18446744073709551616) (hf : fexp B ≠ 2047) (hk : fplace B = (k : Int)) (hk11 : 11 ≤ k) (hns : ¬ (fneg B = true ∧ fplace B = 11 ∧ fman B = 4503599627370496)) (w : World) :
    Calls Tryz.prog 28 #[.float .f64 B] w fun e w' => ∃ v, e = .returned v ∧ IntIs w' w.heap.size v (fneg B && decide (0 < fwhole B)) (fwhole B) ∧ Below w.heap.size w w' := by
  have hM := fman_lt B
  have hMh := fplace_hi (B := B) (by omega)
  have hfw : fwhole B = fman B * 2 ^ k := by unfold fwhole; rw [if_pos (by omega), hk]; rfl
  have hpos : 0 < fman B * 2 ^ k := Nat.mul_pos (by omega) (Nat.two_pow_pos k)
  have hneg : (fneg B && decide (0 < fwhole B)) = fneg B := by rw [hfw]; simp [hpos]
  rw [hneg, hfw]
  have ho : ∃ o1 o2, (FloatKind.f64.format.order 14114281232179134464 B == some .lt || FloatKind.f64.format.order 14114281232179134464 B == some .eq) = o1 ∧ (FloatKind.f64.format.order B 4890909195324358656 == some .lt) = o2 ∧ (o1 = false ∨ (o1 = true ∧ o2 = false)) := by
    refine ⟨_, _, ge_m2_63 B hB hf, lt_2_63 B hB hf, ?_⟩
    have hp : ¬ (fplace B ≤ 10) := by omega
    cases hn : fneg B
    · right; simp [hp]
    · left
      have : ¬ (fplace B = 11 ∧ fman B = 4503599627370496) := fun q => hns ⟨hn, q.1, q.2⟩
      simp [hp, this]
  obtain ⟨o1, o2, ho1, ho2, hoo⟩ := ho
  obtain ⟨w1, hw1⟩ : ∃ w1, w1 = w.alloc (.cells #[.int .i64 0, .pointer none] 50) := ⟨_, rfl⟩
  have hb1 : Below w.heap.size w w1 := by rw [hw1]; exact (Below.refl _ _).alloc (Nat.le_refl _) _
  have hs1 : w1.heap.size = w.heap.size + 1 := by rw [hw1]; simp
  have hq1 : w1.heap[w.heap.size]? = some (.cells #[.int .i64 0, .pointer none] 50 (0, 0)) := by rw [hw1]; exact heap_alloc_new _ _
  have HRT := Lib.hid (rational_big B k hB hf hk hk11 w1)
  have HW1 := Lib.hid hw1; have HB1 := Lib.hid hb1; have HS1 := Lib.hid hs1; have HQ1 := Lib.hid hq1
  clear hw1 hb1 hs1 hq1 hk hf hns hM hMh hfw hpos hneg
  rcases hoo with rfl | ⟨rfl, rfl⟩
  all_goals (
    go_enter Tryz.func28, Tryz.ntmps28
    go_wp2_with fail
    rw [← HW1.out]
    refine HRT.out.mono ?_
    rintro e w2 ⟨rfl, ⟨gx, cx, gy, cy, n, hrat⟩, hb2⟩
    have hs1 := HS1.out
    have hbw2 : Below w.heap.size w w2 := HB1.out.trans (hb2.mono (by omega))
    have hs2 : w1.heap.size < w2.heap.size := (Array.getElem?_eq_some_iff.1 hrat.heap).1
    have hq2 := (hb2.block w.heap.size (by omega)).trans HQ1.out
    obtain ⟨w3, hw3⟩ : ∃ w3, w3 = w2.alloc (.cells #[.bool false, .slice none 0 0] 125) := ⟨_, rfl⟩
    have hb23 : Below w2.heap.size w2 w3 := by rw [hw3]; exact (Below.refl _ _).alloc (Nat.le_refl _) _
    have hz3 : w3.heap[w2.heap.size]? = some (.cells #[.bool false, .slice none 0 0] 125 (0, 0)) := by rw [hw3]; exact heap_alloc_new _ _
    have hr3 := hrat.below hb23
    have hbw3 : Below w.heap.size w w3 := hbw2.trans (hb23.mono (by omega))
    have hq3 := (hb23.block w.heap.size (by omega)).trans hq2
    have h33 : w3.cell? ⟨w1.heap.size, 3, none⟩ = some (.slice (some ⟨gy, 0, none⟩) 1 cy) := (cell_of_row w3 _ 3 _ _ (0, 0) hr3.heap).trans rfl
    have HNU := Lib.hid (Num_any w1.heap.size w3)
    have HDE := Lib.hid (Denom_any w1.heap.size _ _ w3 h33)
    have HDI := Lib.hid (Div_one w2.heap.size w1.heap.size _ _ _ _ _ _ _ w3 hr3 hz3 (by omega))
    have HW3 := Lib.hid hw3; have HBW3 := Lib.hid hbw3; have HQ3 := Lib.hid hq3; have HS2 := Lib.hid hs2
    have HB23 := Lib.hid hb23
    clear hw3 hb23 hz3 hr3 hbw3 hq3 h33 hbw2 hq2 hb2 hs2 hs1 hrat
    go_wp2_with fail
    rw [← HW3.out]
    refine HNU.out.mono ?_
    rintro e w3' ⟨rfl, rfl⟩
    go_wp2_with fail
    refine HDE.out.mono ?_
    rintro e w3'' ⟨rfl, rfl⟩
    go_wp2_with fail
    refine HDI.out.mono ?_
    rintro e w4 ⟨rfl, hobj, hch4⟩
    have hs1 := HS1.out
    have hs2 := HS2.out
    have hbw4 : Below w.heap.size w w4 := Chg.below HBW3.out HBW3.out.size hch4 (by omega)
    have hq4 := (hch4.block w.heap.size (by have := HBW3.out.size; have := HB23.out.size; omega) (by omega)).trans HQ3.out
    have hs4 : w.heap.size < w4.heap.size := (Array.getElem?_eq_some_iff.1 hq4).1
    have HMB := Lib.hid (MakeBigInt_any w2.heap.size 0 n (fman B * 2 ^ k) (fneg B) w4 hobj)
    have HBW4 := Lib.hid hbw4; have HQ4 := Lib.hid hq4; have HS4 := Lib.hid hs4
    clear hobj hch4 hbw4 hq4 hs1 hs2 hs4
    go_wp2_with fail
    refine HMB.out.mono ?_
    rintro e w5 ⟨v, rfl, hI, hb5⟩
    obtain ⟨zz, pp, rfl⟩ := hI.shape
    have hs4 := HS4.out
    have hq5 := (hb5.block w.heap.size hs4).trans HQ4.out
    have hb6 := HBW4.out.trans (hb5.mono (by omega))
    have c0 := (cell_of_row _ _ 0 _ _ (0, 0) hq5).trans rfl
    have c1 := (cell_of_row _ _ 1 _ _ (0, 0) hq5).trans rfl
    have f0 : ∀ i, w5.frozen? ⟨w.heap.size, i, none⟩ = false := fun i => by simp [World.frozen?, hq5]
    have HI := Lib.hid hI; have HB6 := Lib.hid hb6; have HQ5 := Lib.hid hq5
    clear hI hb5 hq5 hb6 hs4
    go_wp2
    have hW := set2 (x := .int .i64 zz) (y := .pointer pp) HQ5.out
    have e0 := (cell_of_row _ _ 0 _ _ (0, 0) hW).trans rfl
    have e1 := (cell_of_row _ _ 1 _ _ (0, 0) hW).trans rfl
    exact bodyPost_ret (v := .agg #[.int .i64 zz, .pointer pp]) (by simp [results, Tryz.results28, go_sem, e0, e1]) rfl ⟨_, rfl, ((HI.out.far HS4.out _).far HS4.out _).base_le (by have := HS4.out; omega), (HB6.out.setCell (by simp) _).setCell (by simp) _⟩)

theorem f2i_any (B : Nat) (hB : B < 18446744073709551616) (hf : fexp B ≠ 2047) (w : World) :
    Calls Tryz.prog 28 #[.float .f64 B] w fun e w' => ∃ v, e = .returned v ∧ IntIs w' w.heap.size v (fneg B && decide (0 < fwhole B)) (fwhole B) ∧ Below w.heap.size w w' := by
  by_cases h : fplace B ≤ 10 ∨ (fneg B = true ∧ fplace B = 11 ∧ fman B = 4503599627370496)
  · exact f2i_small B hB hf h w
  · have h1 : ¬ (fplace B ≤ 10) := fun q => h (.inl q)
    obtain ⟨k, hk⟩ := Int.eq_ofNat_of_zero_le (show 0 ≤ fplace B by omega)
    exact f2i_big B k hB hf hk (by omega) (fun q => h (.inr q)) w

end Go.Proofs.YtalpkahhfjkeiaaGreatDoor
