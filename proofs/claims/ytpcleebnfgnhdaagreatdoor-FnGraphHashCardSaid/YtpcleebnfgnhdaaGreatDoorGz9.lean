import Derived.Test.YtpcleebnfgnhdaaGreatDoorGz5
import Derived.Test.YtpcleebnfgnhdaaGreatDoorGz8
/- Walks: impl.scalar, impl.value of integers, floats, strings and bools. -/
set_option linter.unusedVariables false
set_option linter.unusedSimpArgs false
namespace Go.Proofs.YtpcleebnfgnhdaaGreatDoor
open Go.RowKit
open Num

/-- a value of the program that has no kids -/
abbrev valOf (k : Int) (neg : Bool) (s : Value) (bits : Int) (text : ByteArray) : Value := .agg #[.int .i64 k, .bool neg, s, .int .u64 bits, .string text, .slice none 0 0]

abbrev valZero : Array Value := #[.int .i64 0, .bool false, .slice none 0 0, .int .u64 0, .string ⟨#[]⟩, .slice none 0 0]

theorem valRow {w : World} {B : Nat} {T : Nat} {a0 a1 a2 a3 a4 a5 : Value} (h : w.heap[B]? = some (.cells #[a0, a1, a2, a3, a4, a5] T (0, 0))) :
    w.cell? ⟨B, 0, none⟩ = some a0 ∧ w.cell? ⟨B, 1, none⟩ = some a1 ∧ w.cell? ⟨B, 2, none⟩ = some a2 ∧ w.cell? ⟨B, 3, none⟩ = some a3 ∧ w.cell? ⟨B, 4, none⟩ = some a4 ∧ w.cell? ⟨B, 5, none⟩ = some a5 ∧ ∀ i, w.frozen? ⟨B, i, none⟩ = false :=
  ⟨(cell_of_row _ _ 0 _ _ (0, 0) h).trans rfl, (cell_of_row _ _ 1 _ _ (0, 0) h).trans rfl, (cell_of_row _ _ 2 _ _ (0, 0) h).trans rfl, (cell_of_row _ _ 3 _ _ (0, 0) h).trans rfl, (cell_of_row _ _ 4 _ _ (0, 0) h).trans rfl, (cell_of_row _ _ 5 _ _ (0, 0) h).trans rfl, fun i => by simp [World.frozen?, h]⟩

theorem scalar_int (neg : Bool) (s : Value) (n V : Nat) (w : World) (hm : MagAt w s n V) (hn : n ≤ 16777216) (hneg : neg = true → 0 < V) :
    Calls Tryz.prog 58 #[.int .i64 2, valInt neg s] w fun e w' => ∃ v, e = .returned (.tuple #[.iface 110 v, .bool true]) ∧ IntIs w' w.heap.size v neg V ∧ Below w.heap.size w w' := by
  obtain ⟨sa, sc, rfl⟩ := hm.shape
  have hb0 : Below w.heap.size w (w.alloc (.cells #[.int .i64 2, .bool neg, .slice sa n sc, .int .u64 0, .string ⟨#[]⟩, .slice none 0 0] 32)) := (Below.refl _ _).alloc (Nat.le_refl _) _
  have HW := Lib.hid (whole_any 2 neg (.slice sa n sc) 0 ⟨#[]⟩ (.slice none 0 0) n V _ (hm.below hb0) hn hneg rfl rfl)
  have HB := Lib.hid hb0
  clear hm hb0
  go_enter Tryz.func58, Tryz.ntmps58
  go_wp2_with fail
  refine HW.out.mono ?_
  rintro e w' ⟨v, rfl, hI, hb⟩
  go_wp2
  go_ret2
  exact ⟨_, rfl, hI.base_le (by simp), HB.out.trans (hb.mono (by simp))⟩

theorem value_int (neg : Bool) (s : Value) (n V : Nat) (w : World) (hm : MagAt w s n V) (hn : n ≤ 16777216) (hneg : neg = true → 0 < V) :
    Calls Tryz.prog 67 #[valInt neg s] w fun e w' => ∃ v, e = .returned (.tuple #[.iface 110 v, .bool true]) ∧ IntIs w' w.heap.size v neg V ∧ Below w.heap.size w w' := by
  obtain ⟨sa, sc, rfl⟩ := hm.shape
  have hb0 : Below w.heap.size w (w.alloc (.cells #[.int .i64 2, .bool neg, .slice sa n sc, .int .u64 0, .string ⟨#[]⟩, .slice none 0 0] 32)) := (Below.refl _ _).alloc (Nat.le_refl _) _
  have HW := Lib.hid (scalar_int neg (.slice sa n sc) n V _ (hm.below hb0) hn hneg)
  have HB := Lib.hid hb0
  clear hm hb0
  go_enter Tryz.func67, Tryz.ntmps67
  go_wp2_with fail
  refine HW.out.mono ?_
  rintro e w' ⟨v, rfl, hI, hb⟩
  go_wp2
  go_ret2
  exact ⟨_, rfl, hI.base_le (by simp), HB.out.trans (hb.mono (by simp))⟩

theorem errorsNew_any (text : ByteArray) (w : World) :
    Calls Tryz.prog 100 #[.string text] w fun e w' => ∃ p, e = .returned (.iface 254 (.pointer (some p))) ∧ Below w.heap.size w w' := by
  go_enter Tryz.func100, Tryz.ntmps100
  go_wp2
  go_ret
  exact ⟨_, rfl, (Below.refl _ _).alloc (Nat.le_refl _) _⟩

set_option maxRecDepth 100000 in
theorem scalar_float (bits : Nat) (hb : bits < 18446744073709551616) (w : World) :
    Calls Tryz.prog 58 #[.int .i64 3, valOf 3 false (.slice none 0 0) bits ⟨#[]⟩] w fun e w' => e = .returned (.tuple #[.iface 112 (.float .f64 bits), .bool true]) ∧ Below w.heap.size w w' := by
  have HF := Lib.hid (fun W : World => show Calls Tryz.prog 82 #[.int .u64 bits] W fun e w' => e = .returned (.float .f64 bits) ∧ w' = W from by
    go_enter Tryz.func82, Tryz.ntmps82
    have hfb := run_frombits (bits : Int)
    go_wp2
    go_ret
    exact ⟨rfl, rfl⟩)
  go_enter Tryz.func58, Tryz.ntmps58
  go_wp2_with fail
  refine (HF.out _).mono ?_
  rintro e w' ⟨rfl, rfl⟩
  go_wp2
  go_ret2
  exact ⟨rfl, (Below.refl _ _).alloc (Nat.le_refl _) _⟩

theorem scalar_string (text : ByteArray) (w : World) :
    Calls Tryz.prog 58 #[.int .i64 4, valOf 4 false (.slice none 0 0) 0 text] w fun e w' => e = .returned (.tuple #[.iface 96 (.string text), .bool true]) ∧ Below w.heap.size w w' := by
  go_enter Tryz.func58, Tryz.ntmps58
  go_wp2
  go_ret2
  exact ⟨rfl, (Below.refl _ _).alloc (Nat.le_refl _) _⟩

theorem scalar_bool (bits : Nat) (hb : bits ≤ 1) (w : World) :
    Calls Tryz.prog 58 #[.int .i64 1, valOf 1 false (.slice none 0 0) bits ⟨#[]⟩] w fun e w' => e = .returned (.tuple #[.iface 105 (.bool (bits == 1)), .bool true]) ∧ Below w.heap.size w w' := by
  have h1 : ((bits : Int) == 1) = (bits == 1) := by
    have : bits = 0 ∨ bits = 1 := by omega
    rcases this with rfl | rfl <;> rfl
  have h2 : (bits : Int) ≤ 1 := by omega
  go_enter Tryz.func58, Tryz.ntmps58
  go_wp2_with fail
  go_quiet (fail)
  go_wp2
  go_ret2
  exact ⟨rfl, below_drewN ((Below.refl _ _).alloc (Nat.le_refl _) _)⟩

theorem value_float (bits : Nat) (hb : bits < 18446744073709551616) (w : World) :
    Calls Tryz.prog 67 #[valOf 3 false (.slice none 0 0) bits ⟨#[]⟩] w fun e w' => e = .returned (.tuple #[.iface 112 (.float .f64 bits), .bool true]) ∧ Below w.heap.size w w' := by
  have HW := Lib.hid (fun W : World => scalar_float bits hb W)
  go_enter Tryz.func67, Tryz.ntmps67
  go_wp2_with fail
  refine (HW.out _).mono ?_
  rintro e w' ⟨rfl, hb⟩
  go_wp2
  go_ret2
  exact ⟨rfl, ((Below.refl _ _).alloc (Nat.le_refl _) _).trans (hb.mono (by simp))⟩

theorem value_string (text : ByteArray) (w : World) :
    Calls Tryz.prog 67 #[valOf 4 false (.slice none 0 0) 0 text] w fun e w' => e = .returned (.tuple #[.iface 96 (.string text), .bool true]) ∧ Below w.heap.size w w' := by
  have HW := Lib.hid (fun W : World => scalar_string text W)
  go_enter Tryz.func67, Tryz.ntmps67
  go_wp2_with fail
  refine (HW.out _).mono ?_
  rintro e w' ⟨rfl, hb⟩
  go_wp2
  go_ret2
  exact ⟨rfl, ((Below.refl _ _).alloc (Nat.le_refl _) _).trans (hb.mono (by simp))⟩

theorem value_bool (bits : Nat) (hb : bits ≤ 1) (w : World) :
    Calls Tryz.prog 67 #[valOf 1 false (.slice none 0 0) bits ⟨#[]⟩] w fun e w' => e = .returned (.tuple #[.iface 105 (.bool (bits == 1)), .bool true]) ∧ Below w.heap.size w w' := by
  have HW := Lib.hid (fun W : World => scalar_bool bits hb W)
  go_enter Tryz.func67, Tryz.ntmps67
  go_wp2_with fail
  refine (HW.out _).mono ?_
  rintro e w' ⟨rfl, hb⟩
  go_wp2
  go_ret2
  exact ⟨rfl, ((Below.refl _ _).alloc (Nat.le_refl _) _).trans (hb.mono (by simp))⟩

end Go.Proofs.YtpcleebnfgnhdaaGreatDoor

/- Walks: starlark.MakeInt64; finiteFloatToInt of small floats. -/
set_option linter.unusedVariables false
set_option linter.unusedSimpArgs false
namespace Go.Proofs.YtpcleebnfgnhdaaGreatDoor
open Go.RowKit
open Num

theorem MakeInt64_small (z : Int) (w : World) (h1 : -2147483648 ≤ z) (h2 : z ≤ 2147483647) :
    Calls Tryz.prog 331 #[.int .i64 z] w fun e w' => ∃ v, e = .returned v ∧ IntIs w' w.heap.size v (decide (z < 0)) z.natAbs ∧ Below w.heap.size w w' := by
  go_enter Tryz.func331, Tryz.ntmps331
  go_wp2_with fail
  refine (makeSmallInt_any z _).mono ?_
  rintro e w' ⟨rfl, rfl⟩
  have hb0 : Below w.heap.size w (w.alloc (.cells #[.int .i64 0, .pointer none] 110)) := (Below.refl _ _).alloc (Nat.le_refl _) _
  have hR := heap2_0 w (.cells #[.int .i64 0, .pointer none] 110) (.cells #[.int .i64 z, .pointer none] 110)
  have hb1 : Below w.heap.size w ((w.alloc (.cells #[.int .i64 0, .pointer none] 110)).alloc (.cells #[.int .i64 z, .pointer none] 110)) := hb0.alloc (by simp) _
  have c0 := (cell_of_row _ _ 0 _ _ (0, 0) hR).trans rfl
  have c1 := (cell_of_row _ _ 1 _ _ (0, 0) hR).trans rfl
  have f0 : ∀ i, ((w.alloc (.cells #[.int .i64 0, .pointer none] 110)).alloc (.cells #[.int .i64 z, .pointer none] 110)).frozen? ⟨w.heap.size, i, none⟩ = false := fun i => by simp [World.frozen?, hR]
  have HR := Lib.hid hR; have HB1 := Lib.hid hb1
  clear hR hb0 hb1
  generalize (w.alloc (.cells #[.int .i64 0, .pointer none] 110)).alloc (.cells #[.int .i64 z, .pointer none] 110) = w2 at *
  go_wp2
  have hW := set2 (x := .int .i64 z) (y := .pointer none) HR.out
  have e0 := (cell_of_row _ _ 0 _ _ (0, 0) hW).trans rfl
  have e1 := (cell_of_row _ _ 1 _ _ (0, 0) hW).trans rfl
  refine bodyPost_ret (v := .agg #[.int .i64 z, .pointer none]) (by simp [results, Tryz.results331, go_sem, e0, e1]) rfl ⟨_, rfl, .inl ⟨?_, ?_⟩, (HB1.out.setCell (by simp) _).setCell (by simp) _⟩
  · unfold sm
    by_cases hz : z < 0
    · simp [hz]; omega
    · simp [hz]; omega
  · by_cases hz : z < 0
    · have : (z.natAbs : Int) = -z := by omega
      rw [this]; simp [hz]
    · have : (z.natAbs : Int) = z := by omega
      rw [this]; simp [hz]

theorem NewInt_any (z : Int) (w : World) (h0 : z ≠ 0) (h1 : -9223372036854775808 ≤ z) (h2 : z ≤ 9223372036854775807) :
    Calls Tryz.prog 92 #[.int .i64 z] w fun e w' => e = .returned (.pointer (some ⟨w.heap.size + 1, 0, none⟩)) ∧ w' = (w.alloc (.cells #[.int .u64 (z.natAbs : Int)] 246)).alloc (.cells #[.bool (decide (z < 0)), .slice (some ⟨w.heap.size, 0, none⟩) 1 1] 212) := by
  rcases Int.lt_or_gt_of_ne h0 with h | h
  · obtain ⟨V, hV⟩ := Int.eq_ofNat_of_zero_le (show 0 ≤ -z by omega)
    obtain rfl : z = -(V : Int) := by omega
    have hd : decide (-(V : Int) < 0) = true := by simpa using h
    rw [hd, Int.natAbs_neg, Int.natAbs_natCast]
    exact NewInt_neg V w (by omega) (by omega)
  · obtain ⟨V, hV⟩ := Int.eq_ofNat_of_zero_le (show 0 ≤ z by omega)
    subst hV
    have hd : decide ((V : Int) < 0) = false := by simp
    rw [hd, Int.natAbs_natCast]
    exact NewInt_pos V w (by omega) (by omega)

theorem MakeInt64_big (z : Int) (w : World) (hb : z < -2147483648 ∨ 2147483647 < z) (h1 : -9223372036854775808 ≤ z) (h2 : z ≤ 9223372036854775807) :
    Calls Tryz.prog 331 #[.int .i64 z] w fun e w' => ∃ v, e = .returned v ∧ IntIs w' w.heap.size v (decide (z < 0)) z.natAbs ∧ Below w.heap.size w w' := by
  have hn : (¬ (-2147483648 ≤ z)) ∨ (¬ (z ≤ 2147483647)) := by omega
  obtain ⟨w1, hw1⟩ : ∃ w1, w1 = w.alloc (.cells #[.int .i64 0, .pointer none] 110) := ⟨_, rfl⟩
  have hsz1 : w1.heap.size = w.heap.size + 1 := by rw [hw1]; simp
  have hb1 : Below w.heap.size w w1 := by rw [hw1]; exact (Below.refl _ _).alloc (Nat.le_refl _) _
  have hq1 : w1.heap[w.heap.size]? = some (.cells #[.int .i64 0, .pointer none] 110 (0, 0)) := by rw [hw1]; exact heap_alloc_new _ _
  obtain ⟨O1, hO1⟩ : ∃ O1, O1 = Obj.cells #[.int .u64 (z.natAbs : Int)] 246 := ⟨_, rfl⟩
  obtain ⟨O2, hO2⟩ : ∃ O2, O2 = Obj.cells #[.bool (decide (z < 0)), .slice (some ⟨w1.heap.size, 0, none⟩) 1 1] 212 := ⟨_, rfl⟩
  obtain ⟨O3, hO3⟩ : ∃ O3, O3 = Obj.cells #[.int .i64 0, .pointer (some ⟨w1.heap.size + 1, 0, none⟩)] 110 := ⟨_, rfl⟩
  have hN := NewInt_any z w1 (by omega) h1 h2
  rw [← hO1, ← hO2] at hN
  have HN := Lib.hid hN
  have hMB := makeBigInt_any ⟨w1.heap.size + 1, 0, none⟩ ((w1.alloc O1).alloc O2)
  rw [← hO3] at hMB
  have HMB := Lib.hid hMB
  have HW1 := Lib.hid hw1; have HS1 := Lib.hid hsz1; have HB1 := Lib.hid hb1; have HQ1 := Lib.hid hq1
  have HO1 := Lib.hid hO1; have HO2 := Lib.hid hO2; have HO3 := Lib.hid hO3
  clear hw1 hsz1 hb1 hq1 hO1 hO2 hO3 hN hMB
  have hfin : ∀ w', w' = (((w1.alloc O1).alloc O2).alloc O3) → IntIs w' (w.heap.size + 1) (.agg #[.int .i64 0, .pointer (some ⟨w1.heap.size + 1, 0, none⟩)]) (decide (z < 0)) z.natAbs ∧ Below w.heap.size w w' ∧ w'.heap[w.heap.size]? = some (.cells #[.int .i64 0, .pointer none] 110 (0, 0)) := by
    rintro w' rfl
    have hs := HS1.out
    refine ⟨.inr ⟨?_, w1.heap.size + 1, _, 1, w1.heap.size, 1, fun _ => .int .u64 (wd z.natAbs 0), rfl, by omega, ?_, by omega, ?_, by omega, rfl, by omega, by omega, by omega, ?_, ?_⟩, ?_, ?_⟩
    · unfold sm
      by_cases hz : z < 0
      · simp [hz]; omega
      · simp [hz]; omega
    · rw [heap3_1, HO2.out]
    · refine ⟨by omega, fun _ => by omega⟩
    · refine ⟨_, by rw [heap3_0, HO1.out], rfl, fun i hi => ?_⟩
      obtain rfl : i = 0 := by omega
      have : wd z.natAbs 0 = z.natAbs := by unfold wd; simp; omega
      rw [this]; rfl
    · intro i hi
      obtain rfl : i = 0 := by omega
      rfl
    · exact ((HB1.out.alloc (by omega) _).alloc (by simp; omega) _).alloc (by simp; omega) _
    · rw [heap_alloc_old _ _ (by simp; omega), heap_alloc_old _ _ (by simp; omega), heap_alloc_old _ _ (by omega)]
      exact HQ1.out
  have HF := Lib.hid hfin; clear hfin
  go_enter Tryz.func331, Tryz.ntmps331
  go_wp2_with fail
  all_goals (
    rw [← HW1.out]
    refine HN.out.mono ?_
    rintro e w2 ⟨rfl, rfl⟩
    go_wp2_with fail
    refine HMB.out.mono ?_
    rintro e w3 ⟨rfl, hw3⟩
    obtain ⟨hI, hbf, hq⟩ := HF.out _ hw3
    have c0 := (cell_of_row _ _ 0 _ _ (0, 0) hq).trans rfl
    have c1 := (cell_of_row _ _ 1 _ _ (0, 0) hq).trans rfl
    have f0 : ∀ i, w3.frozen? ⟨w.heap.size, i, none⟩ = false := fun i => by simp [World.frozen?, hq]
    have HI := Lib.hid hI; have HBF := Lib.hid hbf; have HQ := Lib.hid hq
    clear hI hbf hq hw3
    go_wp2
    have hW := set2 (x := .int .i64 0) (y := .pointer (some ⟨w1.heap.size + 1, 0, none⟩)) HQ.out
    have e0 := (cell_of_row _ _ 0 _ _ (0, 0) hW).trans rfl
    have e1 := (cell_of_row _ _ 1 _ _ (0, 0) hW).trans rfl
    have hs := HS1.out
    exact bodyPost_ret (v := .agg #[.int .i64 0, .pointer (some ⟨w1.heap.size + 1, 0, none⟩)]) (by simp [results, Tryz.results331, go_sem, e0, e1]) rfl ⟨_, rfl, ((HI.out.far (by simp) _).far (by simp) _).base_le (by omega), (HBF.out.setCell (by simp) _).setCell (by simp) _⟩)

theorem floatUnder : (Tryz.prog.underlying 112).isSome = true := by kernel_rfl
theorem i64Under : Tryz.prog.underlying 2 = some (.int .i64) := by kernel_rfl

theorem f2i_small (B : Nat) (hB : B < 18446744073709551616) (hf : fexp B ≠ 2047) (h : fplace B ≤ 10 ∨ (fneg B = true ∧ fplace B = 11 ∧ fman B = 4503599627370496)) (w : World) :
    Calls Tryz.prog 330 #[.float .f64 B] w fun e w' => ∃ v, e = .returned v ∧ IntIs w' w.heap.size v (fneg B && decide (0 < fwhole B)) (fwhole B) ∧ Below w.heap.size w w' := by
  have hM := fman_lt B
  have hw : fwhole B < 9223372036854775808 ∨ (fneg B = true ∧ fwhole B = 9223372036854775808) := by
    rcases h with h | ⟨hn, hp, hm⟩
    · left
      unfold fwhole
      split
      · have h2 : 2 ^ (fplace B).toNat ≤ 2 ^ 10 := Nat.pow_le_pow_right (by omega) (by omega)
        have h3 : fman B * 2 ^ (fplace B).toNat ≤ fman B * 1024 := Nat.mul_le_mul_left _ (by simpa using h2)
        omega
      · exact Nat.lt_of_le_of_lt (Nat.div_le_self _ _) (by omega)
    · right
      refine ⟨hn, ?_⟩
      unfold fwhole
      rw [hp, hm]
      decide
  obtain ⟨z, hz⟩ : ∃ z : Int, z = (if fneg B then -(fwhole B : Int) else (fwhole B : Int)) := ⟨_, rfl⟩
  have hz1 : -9223372036854775808 ≤ z := by rw [hz]; split <;> omega
  have hz2 : z ≤ 9223372036854775807 := by
    rw [hz]
    split
    · omega
    · rename_i hne
      rcases hw with hw | ⟨ht, hw⟩
      · omega
      · exact absurd ht hne
  have hneg : decide (z < 0) = (fneg B && decide (0 < fwhole B)) := by
    rw [hz]
    cases fneg B
    · simp
    · simp
  have habs : z.natAbs = fwhole B := by rw [hz]; split <;> omega
  have hconv : floatToIntVal .f64 B .i64 = some z := by
    unfold floatToIntVal
    rw [show FloatKind.f64.decode B = Ieee.double.read B from rfl, toInt_double B hB hf, ← hz]
    simp only
    rw [if_pos ⟨by show (-9223372036854775808 : Int) ≤ z; exact hz1, by show z ≤ (9223372036854775807 : Int); exact hz2⟩]
  have hrun : ∀ W : World, (convert 112 2 (.float .f64 B)).run Tryz.prog W = .ok (.int .i64 z) W := fun W => run_convert_float_int W _ _ _ _ _ _ floatUnder i64Under hconv
  have ho1 : (Ieee.double.order 14114281232179134464 B == some .lt || Ieee.double.order 14114281232179134464 B == some .eq) = true := by
    rw [ge_m2_63 B hB hf]
    rcases h with h | ⟨hn, hp, hm⟩
    · simp [h]
    · simp [hp, hm]
  have ho2 : (Ieee.double.order B 4890909195324358656 == some .lt) = true := by
    rw [lt_2_63 B hB hf]
    rcases h with h | ⟨hn, hp, hm⟩
    · simp [h]
    · simp [hn]
  have hMI : ∀ W : World, Calls Tryz.prog 331 #[.int .i64 z] W fun e w' => ∃ v, e = .returned v ∧ IntIs w' W.heap.size v (decide (z < 0)) z.natAbs ∧ Below W.heap.size W w' := fun W => by
    by_cases hs : -2147483648 ≤ z ∧ z ≤ 2147483647
    · exact MakeInt64_small z W hs.1 hs.2
    · exact MakeInt64_big z W (by omega) hz1 hz2
  rw [hneg, habs] at hMI
  have HMI := Lib.hid hMI
  have hob : Below w.heap.size w (w.alloc (.cells #[.int .i64 0, .pointer none] 110)) := (Below.refl _ _).alloc (Nat.le_refl _) _
  have HOB := Lib.hid hob
  have HQ := Lib.hid (heap_alloc_new w (.cells #[.int .i64 0, .pointer none] 110))
  have ho1' : (FloatKind.f64.format.order 14114281232179134464 B == some .lt || FloatKind.f64.format.order 14114281232179134464 B == some .eq) = true := ho1
  have ho2' : (FloatKind.f64.format.order B 4890909195324358656 == some .lt) = true := ho2
  clear hz hw h hM hneg habs hconv hMI hob ho1 ho2 hz1 hz2
  go_enter Tryz.func330, Tryz.ntmps330
  go_wp2_with fail
  refine (HMI.out _).mono ?_
  rintro e w2 ⟨v, rfl, hI, hb2⟩
  obtain ⟨zz, pp, rfl⟩ := hI.shape
  have hq := (hb2.block w.heap.size (by simp)).trans HQ.out
  have hb3 := HOB.out.trans (hb2.mono (by simp))
  have c0 := (cell_of_row _ _ 0 _ _ (0, 0) hq).trans rfl
  have c1 := (cell_of_row _ _ 1 _ _ (0, 0) hq).trans rfl
  have f0 : ∀ i, w2.frozen? ⟨w.heap.size, i, none⟩ = false := fun i => by simp [World.frozen?, hq]
  have HI := Lib.hid hI; have HB3 := Lib.hid hb3; have HQ2 := Lib.hid hq
  clear hI hb2 hb3 hq
  go_wp2
  have hW := set2 (x := .int .i64 zz) (y := .pointer pp) HQ2.out
  have e0 := (cell_of_row _ _ 0 _ _ (0, 0) hW).trans rfl
  have e1 := (cell_of_row _ _ 1 _ _ (0, 0) hW).trans rfl
  exact bodyPost_ret (v := .agg #[.int .i64 zz, .pointer pp]) (by simp [results, Tryz.results330, go_sem, e0, e1]) rfl ⟨_, rfl, ((HI.out.far (by simp) _).far (by simp) _).base_le (by simp), (HB3.out.setCell (by simp) _).setCell (by simp) _⟩

end Go.Proofs.YtpcleebnfgnhdaaGreatDoor

/- Walks: intOne, SetUint64, Int.Lsh in place, divW by 1, nat.div by 1, Int.Abs, the stack. -/
set_option linter.unusedVariables false
set_option linter.unusedSimpArgs false
namespace Go.Proofs.YtpcleebnfgnhdaaGreatDoor
open Go.RowKit
open Num

theorem natOne_any (w : World) :
    Calls Tryz.prog 193 #[] w fun e w' => e = .returned (.slice (some ⟨w.heap.size, 0, none⟩) 1 1) ∧ w' = w.alloc (.cells #[.int .u64 1] 246) := by
  go_enter Tryz.func193, Tryz.ntmps193
  go_wp2
  go_ret
  exact ⟨rfl, rfl⟩
theorem intOne_any (w : World) :
    Calls Tryz.prog 181 #[] w fun e w' => e = .returned (.pointer (some ⟨w.heap.size + 1, 0, none⟩)) ∧ w' = (w.alloc (.cells #[.int .u64 1] 246)).alloc (.cells #[.bool false, .slice (some ⟨w.heap.size, 0, none⟩) 1 1] 212) := by
  go_enter Tryz.func181, Tryz.ntmps181
  go_wp2_with fail
  refine (natOne_any _).mono ?_
  rintro e w' ⟨rfl, rfl⟩
  go_wp2
  go_ret
  exact ⟨rfl, rfl⟩

theorem SetUint64_own (b o x : Nat) (cz : Array Value) (tz : Nat) (zn : Bool) (w : World) (hx : 0 < x) (hl : x ≤ 18446744073709551615)
    (hz : w.heap[b]? = some (.cells cz tz (0, 0))) (z0 : cz[o]? = some (.bool zn)) (z1 : cz[o + 1]? = some (.slice none 0 0)) :
    Calls Tryz.prog 180 #[.pointer (some ⟨b, o, none⟩), .int .u64 x] w fun e w' => e = .returned (.pointer (some ⟨b, o, none⟩)) ∧ ∃ f, w'.heap[b]? = some (.cells ((cz.setIfInBounds (o + 1) (.slice (some ⟨w.heap.size, 0, none⟩) 1 1)).setIfInBounds o (.bool false)) tz (0, 0)) ∧ Chg b w w' ∧ Row w' w.heap.size 246 1 f ∧ f 0 = .int .u64 x := by
  have hz0 : w.cell? ⟨b, o, none⟩ = some (.bool zn) := (cell_of_row w b o cz tz (0, 0) hz).trans z0
  have hz1 : w.cell? ⟨b, o + 1, none⟩ = some (.slice none 0 0) := (cell_of_row w b (o + 1) cz tz (0, 0) hz).trans z1
  have hbl := (Array.getElem?_eq_some_iff.1 hz).1
  have hf : ∀ i, w.frozen? ⟨b, i, none⟩ = false := fun i => by simp [World.frozen?, hz]
  have HZ := Lib.hid hz; clear hz
  go_enter Tryz.func180, Tryz.ntmps180
  go_wp2_with fail
  refine (setUint64_any x _ hx hl).mono ?_
  rintro e w2 ⟨g, c, hg, rfl, rfl, hb2, hsz, f, hr2, hf2⟩
  have q0 : w2.cell? ⟨b, o, none⟩ = some (.bool zn) := (hb2.cell (p := ⟨b, o, none⟩) hbl).trans hz0
  have q1 : w2.cell? ⟨b, o + 1, none⟩ = some (.slice none 0 0) := (hb2.cell (p := ⟨b, o + 1, none⟩) hbl).trans hz1
  have f2 : ∀ i, w2.frozen? ⟨b, i, none⟩ = false := fun i => (hb2.frozen (p := ⟨b, i, none⟩) hbl).trans (hf i)
  have HB2 := Lib.hid hb2; have HR2 := Lib.hid hr2; have HF2 := Lib.hid hf2; have HG := Lib.hid hg; have HS := Lib.hid hsz
  clear hb2 hr2 hf2 hg hsz
  go_wp2
  go_ret
  obtain rfl : g = w.heap.size := HG.out
  refine ⟨rfl, f, set1 (set1 ((HB2.out.block b hbl).trans HZ.out)), ((Chg.of_below HB2.out).set _ _).set _ _, (HR2.out.far (by show w.heap.size ≠ b; omega) _).far (by show w.heap.size ≠ b; omega) _, HF2.out⟩

theorem IntLsh_own (b o g n c V s : Nat) (cz : Array Value) (tz : Nat) (neg : Bool) (w : World) (hVp : 0 < V) (h0 : 0 < n) (hn : n ≤ 1048576) (hs0 : 0 < s) (hs : s ≤ 65536) (hcap : c < n + s / 64 + 1) (hV : V < 2 ^ (64 * n)) (hg : g < w.heap.size)
    (hc : ∀ i, i < n → w.cell? ⟨g, 0 + i, none⟩ = some (.int .u64 (wd V i)))
    (hz : w.heap[b]? = some (.cells cz tz (0, 0))) (z0 : cz[o]? = some (.bool neg)) (z1 : cz[o + 1]? = some (.slice (some ⟨g, 0, none⟩) n c)) :
    Calls Tryz.prog 182 #[.pointer (some ⟨b, o, none⟩), .pointer (some ⟨b, o, none⟩), .int .u64 s] w fun e w' => e = .returned (.pointer (some ⟨b, o, none⟩)) ∧ ∃ m, Nw m (V * 2 ^ s) ∧ m ≤ 2147483647 ∧ IntSet b o cz tz neg m (V * 2 ^ s) w w' := by
  have hz0 : w.cell? ⟨b, o, none⟩ = some (.bool neg) := (cell_of_row w b o cz tz (0, 0) hz).trans z0
  have hz1 : w.cell? ⟨b, o + 1, none⟩ = some (.slice (some ⟨g, 0, none⟩) n c) := (cell_of_row w b (o + 1) cz tz (0, 0) hz).trans z1
  have hbl := (Array.getElem?_eq_some_iff.1 hz).1
  have hf : ∀ i, w.frozen? ⟨b, i, none⟩ = false := fun i => by simp [World.frozen?, hz]
  have HL := Lib.hid (lsh_some (some ⟨g, 0, none⟩) n c g 0 c n V s w.drew hg h0 hs0 (by omega) hcap hV hc)
  have HZ := Lib.hid hz; have HC := Lib.hid hc
  clear hz hc
  go_enter Tryz.func182, Tryz.ntmps182
  go_wp2_with fail
  go_region_law (first | (go_simp; go_at_call 194; refine HL.out.mono ?_; rintro e w2 ⟨m, g2, c2, hg2, hN, hc1, hc2, rfl, hb2, f, hr2, hf2⟩; have q0 : w2.cell? ⟨b, o, none⟩ = some (.bool neg) := (hb2.cell (p := ⟨b, o, none⟩) hbl).trans hz0; have q1 : w2.cell? ⟨b, o + 1, none⟩ = some (.slice (some ⟨g, 0, none⟩) n c) := (hb2.cell (p := ⟨b, o + 1, none⟩) hbl).trans hz1; have f2 : ∀ i, w2.frozen? ⟨b, i, none⟩ = false := (fun i => (hb2.frozen (p := ⟨b, i, none⟩) hbl).trans (hf i)); have HB2 := Lib.hid hb2; have HR2 := Lib.hid hr2; have HF2 := Lib.hid hf2; have HG2 := Lib.hid hg2; have HN := Lib.hid hN; clear hb2 hr2 hf2 hg2 hN))
  all_goals go_wp2
  all_goals go_ret
  all_goals (
    have hm0 : 0 < m := by
      rcases Nat.eq_zero_or_pos m with h | h
      · have h2 := HN.out.zero_iff.1 h
        have := Nat.mul_pos hVp (Nat.two_pow_pos s)
        omega
      · exact h
    exact ⟨rfl, m, HN.out, by omega, intSet_mk (w := w) (below_undrew HB2.out) HZ.out (.inr ⟨hm0, HN.out.1, g2, c2, f, rfl, Nat.le_of_eq (HG2.out.symm), hc1, by omega, HR2.out, HF2.out⟩)⟩)

theorem divW_one (gx px cx n V : Nat) (w : World) (h0 : 0 < n) (hn : n ≤ 2147483647) (hg : gx < w.heap.size)
    (hc : ∀ i, i < n → w.cell? ⟨gx, px + i, none⟩ = some (.int .u64 (wd V i))) :
    Calls Tryz.prog 217 #[.slice none 0 0, .slice (some ⟨gx, px, none⟩) n cx, .int .u64 1] w fun e w' => ∃ c, n ≤ c ∧ c ≤ n + 4 ∧ e = .returned (.tuple #[.slice (some ⟨w.heap.size, 0, none⟩) n c, .int .u64 0]) ∧ Below w.heap.size w w' ∧
      (∃ f, Row w' w.heap.size 246 c f ∧ ∀ i, i < n → f i = .int .u64 (wd V i)) := by
  have HS := Lib.hid (set_some gx px cx n V w h0 (by omega) hg hc)
  clear hc
  go_enter Tryz.func217, Tryz.ntmps217
  go_wp2_with fail
  refine HS.out.mono ?_
  rintro e w2 ⟨g, c, hg2, hc1, hc2, rfl, hb, hf⟩
  obtain rfl : g = w.heap.size := hg2
  have HB := Lib.hid hb; have HF := Lib.hid hf
  clear hb hf
  go_wp2
  exact bodyPost_ret (v := .tuple #[.slice (some ⟨w.heap.size, 0, none⟩) n c, .int .u64 0]) (by simp [results, Tryz.results217, go_sem]) rfl ⟨c, hc1, hc2, rfl, HB.out, HF.out⟩

theorem natDiv_one (gx px cx gy py cy n V : Nat) (w : World) (h0 : 0 < n) (hn : n ≤ 2147483647) (hg : gx < w.heap.size)
    (hc : ∀ i, i < n → w.cell? ⟨gx, px + i, none⟩ = some (.int .u64 (wd V i))) (hy : w.cell? ⟨gy, py, none⟩ = some (.int .u64 1)) :
    Calls Tryz.prog 196 #[.slice none 0 0, .pointer none, .slice none 0 0, .slice (some ⟨gx, px, none⟩) n cx, .slice (some ⟨gy, py, none⟩) 1 cy] w fun e w' => ∃ c, n ≤ c ∧ c ≤ n + 4 ∧ e = .returned (.tuple #[.slice (some ⟨w.heap.size, 0, none⟩) n c, .slice none 0 0]) ∧ Below w.heap.size w w' ∧
      (∃ f, Row w' w.heap.size 246 c f ∧ ∀ i, i < n → f i = .int .u64 (wd V i)) := by
  have HS := Lib.hid (divW_one gx px cx n V w h0 hn hg hc)
  clear hc
  go_enter Tryz.func196, Tryz.ntmps196
  go_wp2_with fail
  refine HS.out.mono ?_
  rintro e w2 ⟨c, hc1, hc2, rfl, hb, hf⟩
  have HB := Lib.hid hb; have HF := Lib.hid hf
  clear hb hf
  go_wp2_with fail
  refine (setWord_zero _ _ _ _).mono ?_
  rintro e w3 ⟨rfl, rfl⟩
  go_wp2
  go_ret2
  exact ⟨c, hc1, hc2, rfl, HB.out, HF.out⟩

theorem getStack_any (w : World) :
    Calls Tryz.prog 170 #[] w fun e w' => e = .returned (.pointer (some ⟨w.heap.size, 0, none⟩)) ∧ w' = w.alloc (.cells #[.pointer none] 318) := by
  go_enter Tryz.func170, Tryz.ntmps170
  go_wp2
  go_ret
  exact ⟨rfl, rfl⟩
theorem free_deferred (a : Addr) (u : FrameMode) (w : World) (hc : w.cell? a = some (.pointer none)) :
    CallsD Tryz.prog 171 #[.pointer (some a)] u w fun e u' w' => u' = u ∧ (e = .returned (.tuple #[]) ∧ w' = w) := by
  go_enter_d Tryz.func171, Tryz.ntmps171
  go_wp2
  go_end0
  exact ⟨rfl, rfl⟩


end Go.Proofs.YtpcleebnfgnhdaaGreatDoor

/- Walks: Int.Abs; Int.Cmp of equal ones; lehmerGCD by 1. -/
set_option linter.unusedVariables false
set_option linter.unusedSimpArgs false
namespace Go.Proofs.YtpcleebnfgnhdaaGreatDoor
open Go.RowKit
open Num

/-- |x| into a new Int -/
theorem IntAbs_some (b bx ox gx px cx n V : Nat) (ca : Array Value) (tz ta : Nat) (zn xn : Bool) (w : World) (hV : V < 2 ^ (64 * n)) (h0 : 0 < n) (hn : n ≤ 2147483647) (hgx : gx < w.heap.size)
    (hz : w.heap[b]? = some (.cells #[.bool zn, .slice none 0 0] tz (0, 0))) (hx : w.heap[bx]? = some (.cells ca ta (0, 0)))
    (x0 : ca[ox]? = some (.bool xn)) (x1 : ca[ox + 1]? = some (.slice (some ⟨gx, px, none⟩) n cx)) (hne : b ≠ bx)
    (hc : ∀ i, i < n → w.cell? ⟨gx, px + i, none⟩ = some (.int .u64 (wd V i))) :
    Calls Tryz.prog 210 #[.pointer (some ⟨b, 0, none⟩), .pointer (some ⟨bx, ox, none⟩)] w fun e w' => e = .returned (.pointer (some ⟨b, 0, none⟩)) ∧ ∃ g c f, w'.heap[b]? = some (.cells #[.bool false, .slice (some ⟨g, 0, none⟩) n c] tz (0, 0)) ∧ w.heap.size ≤ g ∧ n ≤ c ∧ Row w' g 246 c f ∧ (∀ i, i < n → f i = .int .u64 (wd V i)) ∧ Chg b w w' := by
  have HS := Lib.hid (Int_Set_some b 0 bx ox gx px cx n V #[.bool zn, .slice none 0 0] ca tz ta zn xn w hV h0 hn hgx hz hx rfl rfl x0 x1 hne hc)
  have lb := (Array.getElem?_eq_some_iff.1 hz).1
  clear hz hx x0 x1 hc
  go_enter Tryz.func210, Tryz.ntmps210
  go_wp2_with fail
  refine HS.out.mono ?_
  rintro e w2 ⟨rfl, s, hnew, hch, hh⟩
  rcases hnew with ⟨rfl, _⟩ | ⟨_, _, g, c, f, rfl, hg, hc1, hc2, hrow, hf⟩
  · omega
  have hh2 : w2.heap[b]? = some (.cells #[.bool xn, .slice (some ⟨g, 0, none⟩) n c] tz (0, 0)) := hh
  have q0 := (cell_of_row w2 _ 0 _ _ (0, 0) hh2).trans rfl
  have f0 : ∀ i, w2.frozen? ⟨b, i, none⟩ = false := fun i => by simp [World.frozen?, hh2]
  have HH := Lib.hid hh2; have HC := Lib.hid hch; have HR := Lib.hid hrow; have HF := Lib.hid hf; have HG := Lib.hid hg
  clear hh hh2 hch hrow hf hg
  go_wp2
  go_ret
  have hg := HG.out
  exact ⟨rfl, g, c, f, set1 HH.out, hg, hc1, HR.out.far (by show g ≠ b; omega) _, HF.out, HC.out.set _ _⟩

/-- Cmp of two Ints that are not negative and of one word each, the same -/
theorem Cmp_same1 (b1 b2 g1 g2 c1 c2 V T1 T2 : Nat) (w : World) (hV : V < 2 ^ 64)
    (h1 : w.heap[b1]? = some (.cells #[.bool false, .slice (some ⟨g1, 0, none⟩) 1 c1] T1 (0, 0))) (h2 : w.heap[b2]? = some (.cells #[.bool false, .slice (some ⟨g2, 0, none⟩) 1 c2] T2 (0, 0))) (hne : b1 ≠ b2)
    (k1 : w.cell? ⟨g1, 0, none⟩ = some (.int .u64 V)) (k2 : w.cell? ⟨g2, 0, none⟩ = some (.int .u64 V)) :
    Calls Tryz.prog 173 #[.pointer (some ⟨b1, 0, none⟩), .pointer (some ⟨b2, 0, none⟩)] w fun e w' => e = .returned (.int .i64 0) ∧ ∃ k, w' = w.drewN k := by
  obtain ⟨j, hj, hjs⟩ := info_Int
  have hp := run_eql_ptr_other (P := Tryz.prog) w (a := ⟨b1, 0, none⟩) (b := ⟨b2, 0, none⟩) under_pInt hj hjs (by intro e; injection e with e; exact hne e) h1 h2
  have a0 := (cell_of_row w _ 0 _ _ (0, 0) h1).trans rfl
  have a1 := (cell_of_row w _ 1 _ _ (0, 0) h1).trans rfl
  have b0 := (cell_of_row w _ 0 _ _ (0, 0) h2).trans rfl
  have b1' := (cell_of_row w _ 1 _ _ (0, 0) h2).trans rfl
  have hw : wd V 0 = V := by unfold wd; simp; omega
  have HC := Lib.hid (fun k l => cmp_some g1 0 c1 g2 0 c2 1 V V ((w.drewN k).drewN l) (by omega) (by omega) (by simpa using hV) (by simpa using hV) (fun i hi => by
    obtain rfl : i = 0 := by omega
    rw [hw]; exact k1) (fun i hi => by
    obtain rfl : i = 0 := by omega
    rw [hw]; exact k2))
  have hs : sgn3 V V = 0 := by simp [sgn3]
  rw [hs] at HC
  clear h1 h2 k1 k2 hw hs hj hjs
  go_enter Tryz.func173, Tryz.ntmps173
  go_wp2_with fail
  go_quiet (fail)
  have HC2 := Lib.hid (fun l => HC.out nq l)
  obtain ⟨w0, hw0⟩ : ∃ w0, w0 = w.drewN nq := ⟨_, rfl⟩
  rw [← hw0] at HC2 ⊢
  have d0 : w0.cell? ⟨b1, 0, none⟩ = some (.bool false) := by rw [hw0]; exact a0
  have d1 : w0.cell? ⟨b1, 1, none⟩ = some (.slice (some ⟨g1, 0, none⟩) 1 c1) := by rw [hw0]; exact a1
  have d2 : w0.cell? ⟨b2, 1, none⟩ = some (.slice (some ⟨g2, 0, none⟩) 1 c2) := by rw [hw0]; exact b1'
  have HW0 := Lib.hid hw0
  clear HC hw0
  go_wp2_with fail
  go_quiet ((first | (go_at_call 179; with_reducible exact Calls.quiet_of (HC2.out _))))
  go_wp2
  go_ret
  exact ⟨rfl, _, by rw [HW0.out, World.drewN_drewN]⟩

end Go.Proofs.YtpcleebnfgnhdaaGreatDoor
