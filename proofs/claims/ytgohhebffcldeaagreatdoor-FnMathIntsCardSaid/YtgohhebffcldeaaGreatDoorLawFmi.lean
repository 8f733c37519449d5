/- Walk: laws.FnMathInts. -/
import Derived.Test.YtgohhebffcldeaaGreatDoorUnpX
import Derived.Test.YtgohhebffcldeaaGreatDoorByt
import Derived.Test.YtgohhebffcldeaaGreatDoorMathX
set_option linter.unusedVariables false
set_option linter.unusedSimpArgs false
namespace Go.Proofs.YtgohhebffcldeaaGreatDoor
open Go.RowKit
open Num

theorem isF_of (F : Nat) (neg : Bool) (V : Nat) (hF : F < 18446744073709551616) (h0 : V = 0 → F = 0) (h1 : fexp F ≠ 2047) (h2 : fcAll (sI neg V) F = 0) : IsF F neg V := by
  refine ⟨hF, h1, h0, fun hV => ?_⟩
  unfold fcAll at h2
  rw [if_neg h1] at h2
  have := fcmp_zero neg V F hV h2
  exact ⟨this.2, this.1⟩
theorem IsF.val {F V : Nat} {neg : Bool} (h : IsF F neg V) : IsV F V := by
  rcases Nat.eq_zero_or_pos V with h0 | h0
  · rw [h0, h.2.2.1 h0]
    unfold IsV
    rw [show fman 0 = 0 by decide]
    simp
  · exact (h.2.2.2 h0).1
theorem IsF.sign {F V : Nat} {neg : Bool} (h : IsF F neg V) : fneg F = true → 0 < V := fun hn => by
  rcases Nat.eq_zero_or_pos V with h0 | h0
  · rw [h.2.2.1 h0] at hn
    exact absurd hn (by decide)
  · exact h0

theorem fmi_long1 (an bn : Bool) (a b : Option Addr) (n c m d : Nat) (w : World) (h : 2147483647 < n ∨ 2147483647 < m) :
    Calls Tryz.prog 3 #[.bool an, .slice a n c, .bool bn, .slice b m d] w fun e w' => e = .returned (.bool true) ∧ Below w.heap.size w w' := by
  by_cases h1 : 2147483647 < n
  · have g : (2147483647 : Int) < (n : Int) := by omega
    go_enter Tryz.func3, Tryz.ntmps3
    go_wp2
    go_ret
    exact ⟨rfl, Below.refl _ _⟩
  · have g : ¬ ((2147483647 : Int) < (n : Int)) := by omega
    have g2 : ((2147483647 : Int) < (m : Int)) := by omega
    go_enter Tryz.func3, Tryz.ntmps3
    go_wp2
    go_ret
    exact ⟨rfl, Below.refl _ _⟩
theorem fmi_long2 (an bn : Bool) (a b : Option Addr) (n c m d : Nat) (w : World) (hn : n ≤ 2147483647) (hm : m ≤ 2147483647) (h : 300 < n ∨ 300 < m) :
    Calls Tryz.prog 3 #[.bool an, .slice a n c, .bool bn, .slice b m d] w fun e w' => e = .returned (.bool true) ∧ Below w.heap.size w w' := by
  have k1 : ¬ ((2147483647 : Int) < (n : Int)) := by omega
  have k2 : ¬ ((2147483647 : Int) < (m : Int)) := by omega
  by_cases h1 : 300 < n
  · have g : (300 : Int) < (n : Int) := by omega
    go_enter Tryz.func3, Tryz.ntmps3
    go_wp2
    go_ret
    exact ⟨rfl, Below.refl _ _⟩
  · have g : ¬ ((300 : Int) < (n : Int)) := by omega
    have g2 : ((300 : Int) < (m : Int)) := by omega
    go_enter Tryz.func3, Tryz.ntmps3
    go_wp2
    go_ret
    exact ⟨rfl, Below.refl _ _⟩

/-- the law's body -/
abbrev fObj (R : Nat) : Obj := .cells #[.int .i64 3, .bool false, .slice none 0 0, .int .u64 R, .string ⟨#[]⟩, .slice none 0 0] 26
set_option maxRecDepth 100000 in
set_option maxHeartbeats 2000000 in
theorem fmi_head (an bn : Bool) (a b : Option Addr) (n c m d X Y : Nat) (w : World) (ha : BytAt w (.slice a n c) n X) (hb : BytAt w (.slice b m d) m Y) (hn : n ≤ 300) (hm : m ≤ 300) :
    Calls Tryz.prog 3 #[.bool an, .slice a n c, .bool bn, .slice b m d] w fun e w' => e = .returned (.bool true) ∧ Below w.heap.size w w' := by
  have HOA := Lib.hid (Of_any an (.slice a n c) n X w ha (by omega))
  have HOB := Lib.hid (fun (W : World) (h : Below w.heap.size w W) => Of_any bn (.slice b m d) m Y W (hb.below h) (by omega))
  have k1 : ¬ ((2147483647 : Int) < (n : Int)) := by omega
  have k2 : ¬ ((2147483647 : Int) < (m : Int)) := by omega
  have k3 : ¬ ((300 : Int) < (n : Int)) := by omega
  have k4 : ¬ ((300 : Int) < (m : Int)) := by omega
  clear ha hb
  go_enter Tryz.func3, Tryz.ntmps3
  go_wp2_with fail
  refine HOA.out.mono ?_
  rintro e w2 ⟨s2, m2, rfl, hm2, hn2⟩
  have HI2 := Lib.hid (IntVal_any (an && decide (0 < X)) s2 m2 X w2 hn2.1 (by omega))
  have HB2 := Lib.hid hn2.2.2
  have HM2 := Lib.hid hm2
  clear hn2 hm2
  go_wp2_with fail
  refine HI2.out.mono ?_
  rintro e w3 ⟨s3, rfl, hn3⟩
  have HB3 := Lib.hid (HB2.out.trans (hn3.2.2.mono HB2.out.size))
  have HO3 := Lib.hid (HOB.out w3 HB3.out)
  have HM3 := Lib.hid hn3.1
  clear hn3
  go_wp2_with fail
  refine HO3.out.mono ?_
  rintro e w4 ⟨s4, m4, rfl, hm4, hn4⟩
  have HI4 := Lib.hid (IntVal_any (bn && decide (0 < Y)) s4 m4 Y w4 hn4.1 (by omega))
  have HB4 := Lib.hid (HB3.out.trans (hn4.2.2.mono HB3.out.size))
  have HM4 := Lib.hid hm4
  have HX4 := Lib.hid (HM3.out.below hn4.2.2)
  clear hn4 hm4
  go_wp2_with fail
  refine HI4.out.mono ?_
  rintro e w5 ⟨s5, rfl, hn5⟩
  have hx5 := HX4.out.below hn5.2.2
  obtain ⟨xn, hxn⟩ : ∃ xn, xn = (an && decide (0 < X)) := ⟨_, rfl⟩
  obtain ⟨yn, hyn⟩ : ∃ yn, yn = (bn && decide (0 < Y)) := ⟨_, rfl⟩
  have hxn2 : xn = true → 0 < X := fun h => by rw [hxn] at h; simp at h; exact h.2
  have hyn2 : yn = true → 0 < Y := fun h => by rw [hyn] at h; simp at h; exact h.2
  rw [← hxn, ← hyn]
  obtain ⟨xa, xc, rfl⟩ := hx5.shape
  obtain ⟨ya, yc, rfl⟩ := hn5.1.shape
  have HB5 := Lib.hid (HB4.out.trans (hn5.2.2.mono HB4.out.size))
  have HX5 := Lib.hid hx5; have HY5 := Lib.hid hn5.1
  have HXN := Lib.hid hxn2; have HYN := Lib.hid hyn2
  clear hx5 hn5 hxn hyn hxn2 hyn2 HX4
  obtain ⟨w6, hw6⟩ : ∃ w6, w6 = (w5.alloc (vObj xn (.slice xa m2 xc))).alloc (vObj yn (.slice ya m4 yc)) := ⟨_, rfl⟩
  have hb56 : Below w5.heap.size w5 w6 := by rw [hw6]; exact ((Below.refl _ _).alloc (Nat.le_refl _) _).alloc (by simp) _
  have r0 : w6.heap[w5.heap.size]? = some (vObj xn (.slice xa m2 xc)) := by rw [hw6]; exact heap2_0 _ _ _
  have r1 : w6.heap[w5.heap.size + 1]? = some (vObj yn (.slice ya m4 yc)) := by rw [hw6]; exact heap2_1 _ _ _
  have hsz6 : w6.heap.size = w5.heap.size + 2 := by rw [hw6]; simp
  have HV0 := Lib.hid (fun (W : World) (hb : Below w6.heap.size w6 W) => valRow ((hb.block _ (by omega)).trans r0))
  have HV1 := Lib.hid (fun (W : World) (hb : Below w6.heap.size w6 W) => valRow ((hb.block _ (by omega)).trans r1))
  have HX6 := Lib.hid (fun (W : World) (hb : Below w6.heap.size w6 W) => (HX5.out.below hb56).below hb)
  have HY6 := Lib.hid (fun (W : World) (hb : Below w6.heap.size w6 W) => (HY5.out.below hb56).below hb)
  have HB6 := Lib.hid (HB5.out.trans (hb56.mono HB5.out.size))
  have HW6 := Lib.hid hw6
  have hn2 : m2 ≤ 300 := by have := HM2.out; omega
  have hn4 : m4 ≤ 300 := by have := HM4.out; omega
  clear hb56 r0 r1 hsz6 hw6
  go_wp2_with fail
  rw [← HW6.out]
  refine (MathArg_int xn (.slice xa m2 xc) m2 X w6 (HX6.out w6 (Below.refl _ _)) (by omega) HXN.out).mono ?_
  rintro e w7 ⟨F, isF, rfl, hF, hF0, hFi, hb7⟩
  have HF := Lib.hid (And.intro hF (And.intro hF0 hFi)); have HB7 := Lib.hid hb7
  obtain ⟨q0, q1, q2, q3, q4, q5, qf⟩ := HV1.out w7 hb7
  clear hF hF0 hFi hb7
  go_wp2_with fail
  refine (MathArg_int yn (.slice ya m4 yc) m4 Y w7 (HY6.out w7 HB7.out) (by omega) HYN.out).mono ?_
  rintro e w8 ⟨G, isG, rfl, hG, hG0, hGi, hb8⟩
  have HG := Lib.hid (And.intro hG (And.intro hG0 hGi)); have HB8 := Lib.hid (HB7.out.trans (hb8.mono HB7.out.size))
  clear hG hG0 hGi hb8
  cases isF
  · go_wp2
    go_ret
    exact ⟨rfl, HB6.out.trans (HB8.out.mono HB6.out.size)⟩
  · cases isG
    · go_wp2
      go_ret
      exact ⟨rfl, HB6.out.trans (HB8.out.mono HB6.out.size)⟩
    · have hfF := isF_of F xn X HF.out.1 HF.out.2.1 (HF.out.2.2 rfl).1 (HF.out.2.2 rfl).2
      have hfG := isF_of G yn Y HG.out.1 HG.out.2.1 (HG.out.2.2 rfl).1 (HG.out.2.2 rfl).2
      obtain ⟨R1, hR1⟩ : ∃ R1, R1 = copyBits F G := ⟨_, rfl⟩
      have HK1 := Lib.hid (fun W => Copysign_any F G hfF.1 hfG.1 W)
      rw [← hR1] at HK1
      have hl1 : R1 < 18446744073709551616 := by rw [hR1]; exact copyBits_lt F G hfG.1
      obtain ⟨R2, hl2, hk2⟩ := Mod_any F G X Y hfF.1 hfG.1 hfF.2.1 hfG.2.1 hfF.val hfG.val hfG.2.2.1 hfF.sign
      have HK2 := Lib.hid hk2
      obtain ⟨R3, hR3⟩ : ∃ R3, R3 = F % 9223372036854775808 := ⟨_, rfl⟩
      have HK3 := Lib.hid (fun W => Abs_any F hfF.1 W)
      rw [← hR3] at HK3
      have hl3 : R3 < 18446744073709551616 := by omega
      have HT1 := Lib.hid (MathTwo_copysign xn yn (.slice xa m2 xc) (.slice ya m4 yc) m2 m4 X Y F G R1 w8 (HX6.out w8 HB8.out) (HY6.out w8 HB8.out) (by omega) (by omega) HXN.out HYN.out hfF hfG HK1.out)
      have HT2 := Lib.hid (fun (W : World) (hb : Below w6.heap.size w6 W) => MathTwo_mod xn yn (.slice xa m2 xc) (.slice ya m4 yc) m2 m4 X Y F G R2 W (HX6.out W hb) (HY6.out W hb) (by omega) (by omega) HXN.out HYN.out hfF hfG HK2.out)
      have HT3 := Lib.hid (fun (W : World) (hb : Below w6.heap.size w6 W) => MathOne_fabs xn (.slice xa m2 xc) m2 X F R3 W (HX6.out W hb) (by omega) HXN.out hfF HK3.out)
      have HLL := Lib.hid (And.intro hl1 (And.intro hl2 hl3))
      obtain ⟨p0, p1, p2, p3, p4, p5, pf⟩ := HV0.out w8 HB8.out
      obtain ⟨o0, o1, o2, o3, o4, o5, of⟩ := HV1.out w8 HB8.out
      clear hfF hfG hR1 hR3 hk2 hl1 hl2 hl3 q0 q1 q2 q3 q4 q5 qf
      go_wp2_with fail
      refine HT1.out.mono ?_
      rintro e w9 ⟨rfl, hb9⟩
      obtain ⟨w10, hw10⟩ : ∃ w10, w10 = w9.alloc (fObj R1) := ⟨_, rfl⟩
      have hb10 : Below w6.heap.size w6 w10 := by rw [hw10]; exact (HB8.out.trans (hb9.mono HB8.out.size)).al (Nat.le_refl _) _
      have r10 : w10.heap[w9.heap.size]? = some (fObj R1) := by rw [hw10]; exact heap_alloc_new _ _
      have hs10 : w10.heap.size = w9.heap.size + 1 := by rw [hw10]; simp
      obtain ⟨p10, p11, p12, p13, p14, p15, p1f⟩ := HV0.out (w9.alloc (fObj R1)) (hw10 ▸ hb10)
      obtain ⟨o10, o11, o12, o13, o14, o15, o1f⟩ := HV1.out (w9.alloc (fObj R1)) (hw10 ▸ hb10)
      have HW10 := Lib.hid hw10; have HB10 := Lib.hid hb10; have HR10 := Lib.hid r10; have HS10 := Lib.hid hs10
      clear hb9 hw10 hb10 r10 hs10
      go_wp2_with fail
      rw [← HW10.out]
      refine (HT2.out w10 HB10.out).mono ?_
      rintro e w11 ⟨rfl, hb11⟩
      obtain ⟨w12, hw12⟩ : ∃ w12, w12 = w11.alloc (fObj R2) := ⟨_, rfl⟩
      have hb12' : Below w10.heap.size w10 w12 := by rw [hw12]; exact hb11.al (Nat.le_refl _) _
      have hb12 : Below w6.heap.size w6 w12 := HB10.out.trans (hb12'.mono HB10.out.size)
      have r12 : w12.heap[w11.heap.size]? = some (fObj R2) := by rw [hw12]; exact heap_alloc_new _ _
      have hs12 : w12.heap.size = w11.heap.size + 1 := by rw [hw12]; simp
      obtain ⟨p20, p21, p22, p23, p24, p25, p2f⟩ := HV0.out (w11.alloc (fObj R2)) (hw12 ▸ hb12)
      have HW12 := Lib.hid hw12; have HB12 := Lib.hid hb12; have HR12 := Lib.hid r12; have HS12 := Lib.hid hs12
      have HR12a := Lib.hid ((hb12'.block w9.heap.size (by have := HS10.out; omega)).trans HR10.out)
      have HLE := Lib.hid (show w9.heap.size < w12.heap.size from by have := HS10.out; have := hb12'.size; omega)
      clear hb11 hw12 hb12 hb12' r12 hs12
      go_wp2_with fail
      rw [← HW12.out]
      refine (HT3.out w12 HB12.out).mono ?_
      rintro e w13 ⟨rfl, hb13⟩
      obtain ⟨w14, hw14⟩ : ∃ w14, w14 = w13.alloc (fObj R3) := ⟨_, rfl⟩
      have hb14' : Below w12.heap.size w12 w14 := by rw [hw14]; exact hb13.al (Nat.le_refl _) _
      have r14 : w14.heap[w13.heap.size]? = some (fObj R3) := by rw [hw14]; exact heap_alloc_new _ _
      have hs14 : w14.heap.size = w13.heap.size + 1 := by rw [hw14]; simp
      have hra := (hb14'.block w9.heap.size HLE.out).trans HR12a.out
      have hrb := (hb14'.block w11.heap.size (by have := HS12.out; omega)).trans HR12.out
      have hl9 := (Array.getElem?_eq_some_iff.1 hra).1
      have hl11 := (Array.getElem?_eq_some_iff.1 hrb).1
      have HC1 := Lib.hid (fun (W : World) (hb : Below w14.heap.size w14 W) => valRow ((hb.block _ hl9).trans hra))
      have HC2 := Lib.hid (fun (W : World) (hb : Below w14.heap.size w14 W) => valRow ((hb.block _ hl11).trans hrb))
      have HC3 := Lib.hid (fun (W : World) (hb : Below w14.heap.size w14 W) => valRow ((hb.block _ (by omega)).trans r14))
      have HB14 := Lib.hid (HB6.out.trans ((HB12.out.trans (hb14'.mono HB12.out.size)).mono HB6.out.size))
      have HW14 := Lib.hid hw14
      clear hb13 hw14 hb14' r14 hs14 hra hrb hl9 hl11 HW12 HW10 HT1 HT2 HT3 HV0 HV1 HX6 HY6
      clear p0 p1 p2 p3 p4 p5 pf o0 o1 o2 o3 o4 o5 of p10 p11 p12 p13 p14 p15 p1f o10 o11 o12 o13 o14 o15 o1f p20 p21 p22 p23 p24 p25 p2f
      obtain ⟨c0, c1, c2, c3, c4, c5, cf⟩ := HC1.out w14 (Below.refl _ _)
      obtain ⟨d0, d1, d2, d3, d4, d5, df⟩ := HC2.out w14 (Below.refl _ _)
      obtain ⟨e0, e1, e2, e3, e4, e5, ef⟩ := HC3.out w14 (Below.refl _ _)
      go_wp2_with fail
      rw [← HW14.out]
      go_region_held3 (fun W => Below w14.heap.size w14 W ∧ (W.cell? ⟨w9.heap.size, 0, none⟩ = some (.int .i64 3) ∧ W.cell? ⟨w9.heap.size, 1, none⟩ = some (.bool false) ∧ W.cell? ⟨w9.heap.size, 2, none⟩ = some (.slice none 0 0) ∧ W.cell? ⟨w9.heap.size, 3, none⟩ = some (.int .u64 R1) ∧ W.cell? ⟨w9.heap.size, 4, none⟩ = some (.string ⟨#[]⟩) ∧ W.cell? ⟨w9.heap.size, 5, none⟩ = some (.slice none 0 0)) ∧ (W.cell? ⟨w11.heap.size, 0, none⟩ = some (.int .i64 3) ∧ W.cell? ⟨w11.heap.size, 1, none⟩ = some (.bool false) ∧ W.cell? ⟨w11.heap.size, 2, none⟩ = some (.slice none 0 0) ∧ W.cell? ⟨w11.heap.size, 3, none⟩ = some (.int .u64 R2) ∧ W.cell? ⟨w11.heap.size, 4, none⟩ = some (.string ⟨#[]⟩) ∧ W.cell? ⟨w11.heap.size, 5, none⟩ = some (.slice none 0 0)) ∧ (W.cell? ⟨w13.heap.size, 0, none⟩ = some (.int .i64 3) ∧ W.cell? ⟨w13.heap.size, 1, none⟩ = some (.bool false) ∧ W.cell? ⟨w13.heap.size, 2, none⟩ = some (.slice none 0 0) ∧ W.cell? ⟨w13.heap.size, 3, none⟩ = some (.int .u64 R3) ∧ W.cell? ⟨w13.heap.size, 4, none⟩ = some (.string ⟨#[]⟩) ∧ W.cell? ⟨w13.heap.size, 5, none⟩ = some (.slice none 0 0))) (first | (refine (fun hb => ⟨hb, ⟨(HC1.out _ hb).1, (HC1.out _ hb).2.1, (HC1.out _ hb).2.2.1, (HC1.out _ hb).2.2.2.1, (HC1.out _ hb).2.2.2.2.1, (HC1.out _ hb).2.2.2.2.2.1⟩, ⟨(HC2.out _ hb).1, (HC2.out _ hb).2.1, (HC2.out _ hb).2.2.1, (HC2.out _ hb).2.2.2.1, (HC2.out _ hb).2.2.2.2.1, (HC2.out _ hb).2.2.2.2.2.1⟩, ⟨(HC3.out _ hb).1, (HC3.out _ hb).2.1, (HC3.out _ hb).2.2.1, (HC3.out _ hb).2.2.2.1, (HC3.out _ hb).2.2.2.2.1, (HC3.out _ hb).2.2.2.2.2.1⟩⟩) ?_; repeat (first | with_reducible exact Below.refl _ _ | with_reducible exact HBA.out | with_reducible exact HBB.out | with_reducible exact HBC.out | with_reducible refine Below.drew ?_))) (first | (go_simp; go_at_call 11; refine (HK1.out _).mono ?_; rintro e wz ⟨rfl, rfl⟩) | (go_simp; go_at_call 12; refine (HK2.out _).mono ?_; rintro e wz ⟨rfl, rfl⟩) | (go_simp; go_at_call 13; refine (HK3.out _).mono ?_; rintro e wz ⟨rfl, rfl⟩) | (have hq := HBB.out; clear hq; go_simp; go_at_call 10; refine (isFloat_same R3 HLL.out.2.2 _).mono ?_; rintro e wc ⟨rfl, hbz⟩; have HBC := Lib.hid (HBB.out.trans (hbz.mono HBB.out.size)); clear hbz) | (have hq := HBA.out; clear hq; go_simp; go_at_call 10; refine (isFloat_same R2 HLL.out.2.1 _).mono ?_; rintro e wb ⟨rfl, hbz⟩; have HBB := Lib.hid (HBA.out.trans (hbz.mono HBA.out.size)); clear hbz) | (go_simp; go_at_call 10; refine (isFloat_same R1 HLL.out.1 _).mono ?_; rintro e wa ⟨rfl, hbz⟩; have HBA := Lib.hid (show Below w14.heap.size w14 wa from below_undrew hbz); clear hbz))
      all_goals (
        go_wp2
        go_ret
        exact ⟨rfl, HB14.out.trans (HBC.out.mono HB14.out.size)⟩)

theorem fmi_any (an bn : Bool) (a b : Option Addr) (n c m d X Y : Nat) (w : World) (ha : BytAt w (.slice a n c) n X) (hb : BytAt w (.slice b m d) m Y) :
    Calls Tryz.prog 3 #[.bool an, .slice a n c, .bool bn, .slice b m d] w fun e w' => e = .returned (.bool true) ∧ Below w.heap.size w w' := by
  by_cases h1 : 2147483647 < n ∨ 2147483647 < m
  · exact fmi_long1 an bn a b n c m d w h1
  · by_cases h2 : 300 < n ∨ 300 < m
    · exact fmi_long2 an bn a b n c m d w (by omega) (by omega) h2
    · exact fmi_head an bn a b n c m d X Y w ha hb (by omega) (by omega)
end Go.Proofs.YtgohhebffcldeaaGreatDoor
