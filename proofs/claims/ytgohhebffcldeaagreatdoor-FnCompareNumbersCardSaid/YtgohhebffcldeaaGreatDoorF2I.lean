/- Walks: starlark.MakeInt64; finiteFloatToInt of small floats. -/
import Derived.Test.YtgohhebffcldeaaGreatDoorLsh
import Derived.Test.YtgohhebffcldeaaGreatDoorConv
set_option linter.unusedVariables false
set_option linter.unusedSimpArgs false
namespace Go.Proofs.YtgohhebffcldeaaGreatDoor
open Go.RowKit
open Num

theorem MakeInt64_small (z : Int) (w : World) (h1 : -2147483648 ≤ z) (h2 : z ≤ 2147483647) :
    Calls Tryz.prog 162 #[.int .i64 z] w fun e w' => ∃ v, e = .returned v ∧ IntIs w' w.heap.size v (decide (z < 0)) z.natAbs ∧ Below w.heap.size w w' := by
  go_enter Tryz.func162, Tryz.ntmps162
  go_wp2_with fail
  refine (makeSmallInt_any z _).mono ?_
  rintro e w' ⟨rfl, rfl⟩
  have hb0 : Below w.heap.size w (w.alloc (.cells #[.int .i64 0, .pointer none] 97)) := (Below.refl _ _).alloc (Nat.le_refl _) _
  have hR := heap2_0 w (.cells #[.int .i64 0, .pointer none] 97) (.cells #[.int .i64 z, .pointer none] 97)
  have hb1 : Below w.heap.size w ((w.alloc (.cells #[.int .i64 0, .pointer none] 97)).alloc (.cells #[.int .i64 z, .pointer none] 97)) := hb0.alloc (by simp) _
  have c0 := (cell_of_row _ _ 0 _ _ (0, 0) hR).trans rfl
  have c1 := (cell_of_row _ _ 1 _ _ (0, 0) hR).trans rfl
  have f0 : ∀ i, ((w.alloc (.cells #[.int .i64 0, .pointer none] 97)).alloc (.cells #[.int .i64 z, .pointer none] 97)).frozen? ⟨w.heap.size, i, none⟩ = false := fun i => by simp [World.frozen?, hR]
  have HR := Lib.hid hR; have HB1 := Lib.hid hb1
  clear hR hb0 hb1
  generalize (w.alloc (.cells #[.int .i64 0, .pointer none] 97)).alloc (.cells #[.int .i64 z, .pointer none] 97) = w2 at *
  go_wp2
  have hW := set2 (x := .int .i64 z) (y := .pointer none) HR.out
  have e0 := (cell_of_row _ _ 0 _ _ (0, 0) hW).trans rfl
  have e1 := (cell_of_row _ _ 1 _ _ (0, 0) hW).trans rfl
  refine bodyPost_ret (v := .agg #[.int .i64 z, .pointer none]) (by simp [results, Tryz.results162, go_sem, e0, e1]) rfl ⟨_, rfl, .inl ⟨?_, ?_⟩, (HB1.out.setCell (by simp) _).setCell (by simp) _⟩
  · unfold sm
    by_cases hz : z < 0
    · simp [hz]; omega
    · simp [hz]; omega
  · by_cases hz : z < 0
    · have : (z.natAbs : Int) = -z := by omega
      rw [this]; simp [hz]
    · have : (z.natAbs : Int) = z := by omega
      rw [this]; simp [hz]

theorem NewInt_any (z : Int) (w : World) (h0 : z ≠ 0) (h1 : -9223372036854775808 ≤ z) (h2 : z ≤ 9223372036854775807) :
    Calls Tryz.prog 159 #[.int .i64 z] w fun e w' => e = .returned (.pointer (some ⟨w.heap.size + 1, 0, none⟩)) ∧ w' = (w.alloc (.cells #[.int .u64 (z.natAbs : Int)] 228)).alloc (.cells #[.bool (decide (z < 0)), .slice (some ⟨w.heap.size, 0, none⟩) 1 1] 142) := by
  rcases Int.lt_or_gt_of_ne h0 with h | h
  · obtain ⟨V, hV⟩ := Int.eq_ofNat_of_zero_le (show 0 ≤ -z by omega)
    obtain rfl : z = -(V : Int) := by omega
    have hd : decide (-(V : Int) < 0) = true := by simpa using h
    rw [hd, Int.natAbs_neg, Int.natAbs_natCast]
    exact NewInt_neg V w (by omega) (by omega)
  · obtain ⟨V, hV⟩ := Int.eq_ofNat_of_zero_le (show 0 ≤ z by omega)
    subst hV
    have hd : decide ((V : Int) < 0) = false := by simp
    rw [hd, Int.natAbs_natCast]
    exact NewInt_pos V w (by omega) (by omega)

theorem MakeInt64_big (z : Int) (w : World) (hb : z < -2147483648 ∨ 2147483647 < z) (h1 : -9223372036854775808 ≤ z) (h2 : z ≤ 9223372036854775807) :
    Calls Tryz.prog 162 #[.int .i64 z] w fun e w' => ∃ v, e = .returned v ∧ IntIs w' w.heap.size v (decide (z < 0)) z.natAbs ∧ Below w.heap.size w w' := by
  have hn : (¬ (-2147483648 ≤ z)) ∨ (¬ (z ≤ 2147483647)) := by omega
  obtain ⟨w1, hw1⟩ : ∃ w1, w1 = w.alloc (.cells #[.int .i64 0, .pointer none] 97) := ⟨_, rfl⟩
  have hsz1 : w1.heap.size = w.heap.size + 1 := by rw [hw1]; simp
  have hb1 : Below w.heap.size w w1 := by rw [hw1]; exact (Below.refl _ _).alloc (Nat.le_refl _) _
  have hq1 : w1.heap[w.heap.size]? = some (.cells #[.int .i64 0, .pointer none] 97 (0, 0)) := by rw [hw1]; exact heap_alloc_new _ _
  obtain ⟨O1, hO1⟩ : ∃ O1, O1 = Obj.cells #[.int .u64 (z.natAbs : Int)] 228 := ⟨_, rfl⟩
  obtain ⟨O2, hO2⟩ : ∃ O2, O2 = Obj.cells #[.bool (decide (z < 0)), .slice (some ⟨w1.heap.size, 0, none⟩) 1 1] 142 := ⟨_, rfl⟩
  obtain ⟨O3, hO3⟩ : ∃ O3, O3 = Obj.cells #[.int .i64 0, .pointer (some ⟨w1.heap.size + 1, 0, none⟩)] 97 := ⟨_, rfl⟩
  have hN := NewInt_any z w1 (by omega) h1 h2
  rw [← hO1, ← hO2] at hN
  have HN := Lib.hid hN
  have hMB := makeBigInt_any ⟨w1.heap.size + 1, 0, none⟩ ((w1.alloc O1).alloc O2)
  rw [← hO3] at hMB
  have HMB := Lib.hid hMB
  have HW1 := Lib.hid hw1; have HS1 := Lib.hid hsz1; have HB1 := Lib.hid hb1; have HQ1 := Lib.hid hq1
  have HO1 := Lib.hid hO1; have HO2 := Lib.hid hO2; have HO3 := Lib.hid hO3
  clear hw1 hsz1 hb1 hq1 hO1 hO2 hO3 hN hMB
  have hfin : ∀ w', w' = (((w1.alloc O1).alloc O2).alloc O3) → IntIs w' (w.heap.size + 1) (.agg #[.int .i64 0, .pointer (some ⟨w1.heap.size + 1, 0, none⟩)]) (decide (z < 0)) z.natAbs ∧ Below w.heap.size w w' ∧ w'.heap[w.heap.size]? = some (.cells #[.int .i64 0, .pointer none] 97 (0, 0)) := by
    rintro w' rfl
    have hs := HS1.out
    refine ⟨.inr ⟨?_, w1.heap.size + 1, _, 1, w1.heap.size, 1, fun _ => .int .u64 (wd z.natAbs 0), rfl, by omega, ?_, by omega, ?_, by omega, rfl, by omega, by omega, by omega, ?_, ?_⟩, ?_, ?_⟩
    · unfold sm
      by_cases hz : z < 0
      · simp [hz]; omega
      · simp [hz]; omega
    · rw [heap3_1, HO2.out]
    · refine ⟨by omega, fun _ => by omega⟩
    · refine ⟨_, by rw [heap3_0, HO1.out], rfl, fun i hi => ?_⟩
      obtain rfl : i = 0 := by omega
      have : wd z.natAbs 0 = z.natAbs := by unfold wd; simp; omega
      rw [this]; rfl
    · intro i hi
      obtain rfl : i = 0 := by omega
      rfl
    · exact ((HB1.out.alloc (by omega) _).alloc (by simp; omega) _).alloc (by simp; omega) _
    · rw [heap_alloc_old _ _ (by simp; omega), heap_alloc_old _ _ (by simp; omega), heap_alloc_old _ _ (by omega)]
      exact HQ1.out
  have HF := Lib.hid hfin; clear hfin
  go_enter Tryz.func162, Tryz.ntmps162
  go_wp2_with fail
  all_goals (
    rw [← HW1.out]
    refine HN.out.mono ?_
    rintro e w2 ⟨rfl, rfl⟩
    go_wp2_with fail
    refine HMB.out.mono ?_
    rintro e w3 ⟨rfl, hw3⟩
    obtain ⟨hI, hbf, hq⟩ := HF.out _ hw3
    have c0 := (cell_of_row _ _ 0 _ _ (0, 0) hq).trans rfl
    have c1 := (cell_of_row _ _ 1 _ _ (0, 0) hq).trans rfl
    have f0 : ∀ i, w3.frozen? ⟨w.heap.size, i, none⟩ = false := fun i => by simp [World.frozen?, hq]
    have HI := Lib.hid hI; have HBF := Lib.hid hbf; have HQ := Lib.hid hq
    clear hI hbf hq hw3
    go_wp2
    have hW := set2 (x := .int .i64 0) (y := .pointer (some ⟨w1.heap.size + 1, 0, none⟩)) HQ.out
    have e0 := (cell_of_row _ _ 0 _ _ (0, 0) hW).trans rfl
    have e1 := (cell_of_row _ _ 1 _ _ (0, 0) hW).trans rfl
    have hs := HS1.out
    exact bodyPost_ret (v := .agg #[.int .i64 0, .pointer (some ⟨w1.heap.size + 1, 0, none⟩)]) (by simp [results, Tryz.results162, go_sem, e0, e1]) rfl ⟨_, rfl, ((HI.out.far (by simp) _).far (by simp) _).base_le (by omega), (HBF.out.setCell (by simp) _).setCell (by simp) _⟩)

theorem floatUnder : (Tryz.prog.underlying 99).isSome = true := by kernel_rfl
theorem i64Under : Tryz.prog.underlying 2 = some (.int .i64) := by kernel_rfl

theorem f2i_small (B : Nat) (hB : B < 18446744073709551616) (hf : fexp B ≠ 2047) (h : fplace B ≤ 10 ∨ (fneg B = true ∧ fplace B = 11 ∧ fman B = 4503599627370496)) (w : World) :
    Calls Tryz.prog 138 #[.float .f64 B] w fun e w' => ∃ v, e = .returned v ∧ IntIs w' w.heap.size v (fneg B && decide (0 < fwhole B)) (fwhole B) ∧ Below w.heap.size w w' := by
  have hM := fman_lt B
  have hw : fwhole B < 9223372036854775808 ∨ (fneg B = true ∧ fwhole B = 9223372036854775808) := by
    rcases h with h | ⟨hn, hp, hm⟩
    · left
      unfold fwhole
      split
      · have h2 : 2 ^ (fplace B).toNat ≤ 2 ^ 10 := Nat.pow_le_pow_right (by omega) (by omega)
        have h3 : fman B * 2 ^ (fplace B).toNat ≤ fman B * 1024 := Nat.mul_le_mul_left _ (by simpa using h2)
        omega
      · exact Nat.lt_of_le_of_lt (Nat.div_le_self _ _) (by omega)
    · right
      refine ⟨hn, ?_⟩
      unfold fwhole
      rw [hp, hm]
      decide
  obtain ⟨z, hz⟩ : ∃ z : Int, z = (if fneg B then -(fwhole B : Int) else (fwhole B : Int)) := ⟨_, rfl⟩
  have hz1 : -9223372036854775808 ≤ z := by rw [hz]; split <;> omega
  have hz2 : z ≤ 9223372036854775807 := by
    rw [hz]
    split
    · omega
    · rename_i hne
      rcases hw with hw | ⟨ht, hw⟩
      · omega
      · exact absurd ht hne
  have hneg : decide (z < 0) = (fneg B && decide (0 < fwhole B)) := by
    rw [hz]
    cases fneg B
    · simp
    · simp
  have habs : z.natAbs = fwhole B := by rw [hz]; split <;> omega
  have hconv : floatToIntVal .f64 B .i64 = some z := by
    unfold floatToIntVal
    rw [show FloatKind.f64.decode B = Ieee.double.read B from rfl, toInt_double B hB hf, ← hz]
    simp only
    rw [if_pos ⟨by show (-9223372036854775808 : Int) ≤ z; exact hz1, by show z ≤ (9223372036854775807 : Int); exact hz2⟩]
  have hrun : ∀ W : World, (convert 99 2 (.float .f64 B)).run Tryz.prog W = .ok (.int .i64 z) W := fun W => run_convert_float_int W _ _ _ _ _ _ floatUnder i64Under hconv
  have ho1 : (Ieee.double.order 14114281232179134464 B == some .lt || Ieee.double.order 14114281232179134464 B == some .eq) = true := by
    rw [ge_m2_63 B hB hf]
    rcases h with h | ⟨hn, hp, hm⟩
    · simp [h]
    · simp [hp, hm]
  have ho2 : (Ieee.double.order B 4890909195324358656 == some .lt) = true := by
    rw [lt_2_63 B hB hf]
    rcases h with h | ⟨hn, hp, hm⟩
    · simp [h]
    · simp [hn]
  have hMI : ∀ W : World, Calls Tryz.prog 162 #[.int .i64 z] W fun e w' => ∃ v, e = .returned v ∧ IntIs w' W.heap.size v (decide (z < 0)) z.natAbs ∧ Below W.heap.size W w' := fun W => by
    by_cases hs : -2147483648 ≤ z ∧ z ≤ 2147483647
    · exact MakeInt64_small z W hs.1 hs.2
    · exact MakeInt64_big z W (by omega) hz1 hz2
  rw [hneg, habs] at hMI
  have HMI := Lib.hid hMI
  have hob : Below w.heap.size w (w.alloc (.cells #[.int .i64 0, .pointer none] 97)) := (Below.refl _ _).alloc (Nat.le_refl _) _
  have HOB := Lib.hid hob
  have HQ := Lib.hid (heap_alloc_new w (.cells #[.int .i64 0, .pointer none] 97))
  have ho1' : (FloatKind.f64.format.order 14114281232179134464 B == some .lt || FloatKind.f64.format.order 14114281232179134464 B == some .eq) = true := ho1
  have ho2' : (FloatKind.f64.format.order B 4890909195324358656 == some .lt) = true := ho2
  clear hz hw h hM hneg habs hconv hMI hob ho1 ho2 hz1 hz2
  go_enter Tryz.func138, Tryz.ntmps138
  go_wp2_with fail
  refine (HMI.out _).mono ?_
  rintro e w2 ⟨v, rfl, hI, hb2⟩
  obtain ⟨zz, pp, rfl⟩ := hI.shape
  have hq := (hb2.block w.heap.size (by simp)).trans HQ.out
  have hb3 := HOB.out.trans (hb2.mono (by simp))
  have c0 := (cell_of_row _ _ 0 _ _ (0, 0) hq).trans rfl
  have c1 := (cell_of_row _ _ 1 _ _ (0, 0) hq).trans rfl
  have f0 : ∀ i, w2.frozen? ⟨w.heap.size, i, none⟩ = false := fun i => by simp [World.frozen?, hq]
  have HI := Lib.hid hI; have HB3 := Lib.hid hb3; have HQ2 := Lib.hid hq
  clear hI hb2 hb3 hq
  go_wp2
  have hW := set2 (x := .int .i64 zz) (y := .pointer pp) HQ2.out
  have e0 := (cell_of_row _ _ 0 _ _ (0, 0) hW).trans rfl
  have e1 := (cell_of_row _ _ 1 _ _ (0, 0) hW).trans rfl
  exact bodyPost_ret (v := .agg #[.int .i64 zz, .pointer pp]) (by simp [results, Tryz.results138, go_sem, e0, e1]) rfl ⟨_, rfl, ((HI.out.far (by simp) _).far (by simp) _).base_le (by simp), (HB3.out.setCell (by simp) _).setCell (by simp) _⟩

end Go.Proofs.YtgohhebffcldeaaGreatDoor
