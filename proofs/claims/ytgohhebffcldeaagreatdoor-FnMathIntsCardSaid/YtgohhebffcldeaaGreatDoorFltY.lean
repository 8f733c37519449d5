/- Walk: big.Float's SetInt. Walk: big.Float's Set to 53 bits of one that is exact in them. Walk: big.Float's Float64 of a number that is a double. Walk: a starlark integer that is a double, as a float. Walk: (starlark.Int).Float of an integer that is a double. -/
import Derived.Test.YtgohhebffcldeaaGreatDoorFltX
import Derived.Test.YtgohhebffcldeaaGreatDoorInt4
import Derived.Test.YtgohhebffcldeaaGreatDoorFloX
import Derived.Test.YtgohhebffcldeaaGreatDoorFin
import Derived.Laws.FloatArith
set_option linter.unusedVariables false
set_option linter.unusedSimpArgs false
namespace Go.Proofs.YtgohhebffcldeaaGreatDoor
open Go.RowKit
open Num

theorem lowM (V n L P : Nat) (hP : P = max L 64) (hL : L ≤ 64 * n) (h1 : 64 * (n - 1) < L) : (V * 2 ^ (64 * n - L)) % 2 ^ (64 * n - P) = 0 := by
  have : 2 ^ (64 * n - L) = 2 ^ (64 * n - P) * 2 ^ (64 * n - L - (64 * n - P)) := by rw [← Nat.pow_add]; congr 1; omega
  rw [this, Nat.mul_left_comm]
  exact Nat.mul_mod_right _ _

set_option maxRecDepth 100000 in
set_option maxHeartbeats 1000000 in
theorem SetInt_any (zb b gx cx n V B : Nat) (neg : Bool) (w : World) (hz : w.heap[zb]? = some (fltObj 0 0 0 false (.slice none 0 0) 0)) (hx : w.heap[b]? = some (.cells #[.bool neg, .slice (some ⟨gx, 0, none⟩) n cx] 142 (0, 0))) (hzb : zb ≠ b) (hzg : gx ≠ zb) (hgx : gx < w.heap.size) (hBz : B ≤ zb)
    (h0 : 0 < n) (hn : n ≤ 1048576) (hN : Nw n V) (hc : ∀ i, i < n → w.cell? ⟨gx, i, none⟩ = some (.int .u64 (wd V i))) :
    Calls Tryz.prog 388 #[.pointer (some ⟨zb, 0, none⟩), .pointer (some ⟨b, 0, none⟩)] w fun r w' => r = .returned (.pointer (some ⟨zb, 0, none⟩)) ∧ (∃ L P g c f', 1 ≤ L ∧ L ≤ 64 * n ∧ 2 ^ (L - 1) ≤ V ∧ V < 2 ^ L ∧ P = max L 64 ∧ w'.heap[zb]? = some (fltObj P 0 1 neg (.slice (some ⟨g, 0, none⟩) n c) L) ∧ w.heap.size ≤ g ∧ n ≤ c ∧ c ≤ 2147483651 ∧ Row w' g 228 c f' ∧ ∀ i, i < n → f' i = .int .u64 (wd (V * 2 ^ (64 * n - L)) i)) ∧ Below B w w' := by
  obtain ⟨z0, z1, z2, z3, z4, z5, z6, zf, zl⟩ := fltRow hz
  have x0 := (cell_of_row w b 0 _ _ (0, 0) hx).trans rfl
  have x1 := (cell_of_row w b 1 _ _ (0, 0) hx).trans rfl
  have HBL := Lib.hid (BitLen_some b 0 gx 0 cx n V w h0 (by omega) hN x1 (fun i hi => by rw [Nat.zero_add]; exact hc i hi))
  have hbl := (Array.getElem?_eq_some_iff.1 hx).1
  have HZ := Lib.hid hz; have HC := Lib.hid hc; have HX := Lib.hid hx; have HN := Lib.hid hN
  clear hz hc hx hN
  go_enter Tryz.func388, Tryz.ntmps388
  go_wp2_with fail
  refine HBL.out.mono ?_
  rintro e w' ⟨⟨L, hL1, hL2, hL3, hL4, hL5, rfl⟩, rfl⟩
  obtain ⟨P, hP⟩ : ∃ P, P = max L 64 := ⟨_, rfl⟩
  have hw1 : IntKind.u32.wrap (L : Int) = (L : Int) := by simp only [IntKind.wrap_u32]; omega
  have hmx : max (L : Int) 64 = (P : Int) := by omega
  have hP2 : P ≤ 67108864 := by omega
  have HL := Lib.hid (And.intro hL4 (And.intro hL5 hP))
  clear hL4 hL5
  obtain ⟨w1, hw1'⟩ : ∃ w1, w1 = ((w.setCell ⟨zb, 0, none⟩ (.int .u32 P)).setCell ⟨zb, 2, none⟩ (.int .i8 0)).setCell ⟨zb, 4, none⟩ (.bool neg) := ⟨_, rfl⟩
  have hz1 : w1.heap[zb]? = some (fltObj P 0 0 neg (.slice none 0 0) 0) := by rw [hw1']; exact set1 (set1 (set1 HZ.out))
  have hs1 : w1.heap.size = w.heap.size := by rw [hw1']; simp [World.setCell]
  have hch : Chg zb w w1 := by rw [hw1']; exact (((Chg.refl zb w).set _ _).set _ _).set _ _
  have hc1 : ∀ i, i < n → w1.cell? ⟨gx, i, none⟩ = some (.int .u64 (wd V i)) := fun i hi => (hch.cell (p := ⟨gx, i, none⟩) hgx hzg).trans (HC.out i hi)
  have hb1 : Below B w w1 := by rw [hw1']; exact (((Below.refl _ _).setCell hBz _).setCell hBz _).setCell hBz _
  obtain ⟨y0, y1, y2, y3, y4, y5, y6, yf, yl⟩ := fltRow hz1
  have xx1 : w1.cell? ⟨b, 1, none⟩ = some (.slice (some ⟨gx, 0, none⟩) n cx) := (hch.cell (p := ⟨b, 1, none⟩) hbl (Ne.symm hzb)).trans x1
  have HSET := Lib.hid (set_some gx 0 cx n V w1.drew h0 (by omega) (by show gx < w1.heap.size; omega) (fun i hi => by rw [Nat.zero_add]; exact hc1 i hi))
  have hn0 : ((n : Int) == 0) = false := by simp; omega
  have HW1 := Lib.hid hw1'; have HB1 := Lib.hid hb1; have HZ1 := Lib.hid hz1; have HS1 := Lib.hid hs1
  clear hw1' hb1 hz1 hc1 hs1 hch hP
  go_wp2_with fail
  rw [← HW1.out]
  go_region_law (first | (go_simp; go_at_call 156; refine HSET.out.mono ?_; rintro e w3 ⟨g, c, hg, hnc, hc4, rfl, hb3, f, hr3, hf3⟩; have hb3u := below_undrew hb3; have hz3 := (hb3u.block zb yl).trans HZ1.out; obtain ⟨q0, q1, q2, q3, q4, q5, q6, qf, ql⟩ := fltRow hz3; have HG := Lib.hid hg; have HB3 := Lib.hid hb3u; have HR3 := Lib.hid hr3; have HF3 := Lib.hid hf3; have HZ3 := Lib.hid hz3; clear hb3 hb3u hr3 hf3 hz3 hg))
  all_goals (
    obtain ⟨w4, hw4⟩ : ∃ w4, w4 = w3.setCell ⟨zb, 5, none⟩ (.slice (some ⟨g, 0, none⟩) n c) := ⟨_, rfl⟩
    have HG1 := Lib.hid (show g = w1.heap.size from HG.out)
    have hgz : g ≠ zb := by have := HG1.out; omega
    have hz4 : w4.heap[zb]? = some (fltObj P 0 0 neg (.slice (some ⟨g, 0, none⟩) n c) 0) := by rw [hw4]; exact set1 HZ3.out
    have hr4 : Row w4 g 228 c f := by rw [hw4]; exact HR3.out.far hgz _
    have hb4 : Below B w w4 := by rw [hw4]; exact (HB1.out.trans (HB3.out.mono (by show B ≤ w1.heap.size; have := HS1.out; omega))).setCell hBz _
    obtain ⟨v0, v1, v2, v3, v4, v5, v6, vf, vl⟩ := fltRow hz4
    have HFN := Lib.hid (fnorm_any g c n V L f w4 hr4 h0 (by omega) hnc HN.out HL.out.1 HL.out.2.1 hL1 HF3.out)
    have HW4 := Lib.hid hw4; have HB4 := Lib.hid hb4; have HZ4 := Lib.hid hz4
    clear hw4 hb4 hz4 hr4
    go_wp2_with fail
    rw [← HW4.out]
    go_wp2_with fail
    refine HFN.out.mono ?_
    rintro e w5 ⟨⟨k, rfl⟩, ⟨hch5, hs5⟩, f', hr5, hf5⟩
    have hz5 := (hch5.block zb vl (Ne.symm hgz)).trans HZ4.out
    obtain ⟨s0, s1, s2, s3, s4, s5, s6, sf, sl⟩ := fltRow hz5
    have hBg : B ≤ g := by have := HS1.out; have := HG1.out; omega
    have hb5 : Below B w w5 := HB4.out.trans ⟨hch5.os, hch5.tape, hch5.output, hch5.size, fun i hi => hch5.block i (by have := HB4.out.size; omega) (by omega)⟩
    have HSE := Lib.hid (setExp_keep zb g c n P (V * 2 ^ (64 * n - L)) B L 0 0 0 neg f' w5 hz5 hr5 hgz hBz hBg h0 hn hnc (by omega) hf5 hP2 (by have := HL.out.2.2; omega) (lowM V n L P HL.out.2.2 hL2 hL3) (by omega))
    have HB5 := Lib.hid hb5
    clear hch5 hs5 hr5 hf5 hz5 hb5
    go_wp2_with fail
    refine HSE.out.mono ?_
    rintro e w6 ⟨rfl, h1, ⟨f6, h2, h3⟩, h4⟩
    have HH := Lib.hid (And.intro h1 (And.intro h2 (And.intro h3 h4)))
    clear h1 h2 h3 h4
    go_wp2_with fail
    go_ret
    exact ⟨rfl, ⟨L, P, g, c, f6, hL1, hL2, HL.out.1, HL.out.2.1, HL.out.2.2, HH.out.1, by have := HS1.out; have := HG1.out; omega, hnc, by omega, HH.out.2.1, HH.out.2.2.1⟩, HB5.out.trans HH.out.2.2.2⟩)
end Go.Proofs.YtgohhebffcldeaaGreatDoor

set_option linter.unusedVariables false
set_option linter.unusedSimpArgs false
namespace Go.Proofs.YtgohhebffcldeaaGreatDoor
open Go.RowKit
open Num

theorem under_pFlt : Tryz.prog.underlying 406 = some (.pointer 410) := by kernel_rfl
theorem info_Flt : ∃ j, Tryz.prog.info? 410 = some j ∧ j.size ≠ 0 := by
  have h : (Tryz.prog.info? 410).map (·.size) = some 7 := by kernel_rfl
  obtain ⟨j, hj, hs⟩ := Option.map_eq_some_iff.1 h
  exact ⟨j, hj, by omega⟩

/-- the significand's highest word, where the number is exact in 53 bits -/
theorem round_53 (zb g c m M B : Nat) (ac ex : Int) (neg : Bool) (f : Nat → Value) (w : World) (hz : w.heap[zb]? = some (fltObj 53 ac 1 neg (.slice (some ⟨g, 0, none⟩) m c) ex)) (hrow : Row w g 228 c f) (hne : g ≠ zb) (hBz : B ≤ zb) (hBg : B ≤ g)
    (h0 : 0 < m) (hm : m ≤ 1048576) (hmc : m ≤ c) (hc2 : c ≤ 2147483651) (hc : ∀ i, i < m → f i = .int .u64 (wd M i)) (hM : M % 2 ^ (64 * m - 53) = 0) :
    Calls Tryz.prog 396 #[.pointer (some ⟨zb, 0, none⟩), .int .u64 0] w fun e w' => e = .returned (.tuple #[]) ∧ w'.heap[zb]? = some (fltObj 53 0 1 neg (.slice (some ⟨g, 0, none⟩) 1 c) ex) ∧ w'.cell? ⟨g, 0, none⟩ = some (.int .u64 (wd M (m - 1))) ∧ Below B w w' := by
  by_cases h1 : 1 < m
  · exact round_cut zb g c m M B ac ex neg f w hz hrow hne hBz hBg h1 hm hmc hc2 hc hM
  · obtain rfl : m = 1 := by omega
    refine (round_keep zb g c 1 53 M B ac ex neg f w hz hrow hne hBz hBg h0 hm hmc hc2 hc (by omega) (by omega) hM).mono ?_
    rintro e w' ⟨he, h1, ⟨f', h2, h3⟩, h4⟩
    exact ⟨he, h1, by rw [h2.cell (by omega), h3 0 (by omega)], h4⟩

set_option maxRecDepth 100000 in
set_option maxHeartbeats 1000000 in
theorem Set_53 (rb zb g c n M P B L : Nat) (neg : Bool) (f : Nat → Value) (w : World) (hr : w.heap[rb]? = some (fltObj 53 0 0 false (.slice none 0 0) 0)) (hz : w.heap[zb]? = some (fltObj P 0 1 neg (.slice (some ⟨g, 0, none⟩) n c) L)) (hrow : Row w g 228 c f) (hrz : rb ≠ zb) (hgr : g ≠ rb) (hBr : B ≤ rb)
    (h0 : 0 < n) (hn : n ≤ 1048576) (hnc : n ≤ c) (hc2 : c ≤ 2147483651) (hc : ∀ i, i < n → f i = .int .u64 (wd M i)) (hP : 53 < P) (hP2 : P ≤ 67108864) (hM : M % 2 ^ (64 * n - 53) = 0) :
    Calls Tryz.prog 393 #[.pointer (some ⟨rb, 0, none⟩), .pointer (some ⟨zb, 0, none⟩)] w fun e w' => e = .returned (.pointer (some ⟨rb, 0, none⟩)) ∧ (∃ g2 c2, w'.heap[rb]? = some (fltObj 53 0 1 neg (.slice (some ⟨g2, 0, none⟩) 1 c2) L) ∧ 1 ≤ c2 ∧ c2 ≤ 2147483651 ∧ w'.cell? ⟨g2, 0, none⟩ = some (.int .u64 (wd M (n - 1)))) ∧ Below B w w' := by
  obtain ⟨z0, z1, z2, z3, z4, z5, z6, zf, zl⟩ := fltRow hz
  obtain ⟨r0, r1, r2, r3, r4, r5, r6, rf, rl⟩ := fltRow hr
  obtain ⟨j, hj, hjs⟩ := info_Flt
  obtain ⟨w0, hw0⟩ : ∃ w0, w0 = w.setCell ⟨rb, 2, none⟩ (.int .i8 0) := ⟨_, rfl⟩
  have hz0 : w0.heap[zb]? = some (fltObj P 0 1 neg (.slice (some ⟨g, 0, none⟩) n c) L) := by rw [hw0]; exact (Below.heap_setCell _ ⟨rb, 2, none⟩ _ zb (Ne.symm hrz)).trans hz
  have hr0 : w0.heap[rb]? = some (fltObj 53 0 0 false (.slice none 0 0) 0) := by rw [hw0]; exact set1 hr
  have hpn := run_neq_ptr_other (P := Tryz.prog) w0 (a := ⟨rb, 0, none⟩) (b := ⟨zb, 0, none⟩) under_pFlt hj hjs (by intro e; injection e with e; exact hrz e) hr0 hz0
  obtain ⟨w1, hw1⟩ : ∃ w1, w1 = ((w0.setCell ⟨rb, 3, none⟩ (.int .u8 1)).setCell ⟨rb, 4, none⟩ (.bool neg)).setCell ⟨rb, 6, none⟩ (.int .i32 L) := ⟨_, rfl⟩
  have hr1 : w1.heap[rb]? = some (fltObj 53 0 1 neg (.slice none 0 0) L) := by rw [hw1]; exact set1 (set1 (set1 hr0))
  have hch : Chg rb w w1 := by rw [hw1, hw0]; exact ((((Chg.refl rb w).set _ _).set _ _).set _ _).set _ _
  have hz1 : w1.heap[zb]? = some (fltObj P 0 1 neg (.slice (some ⟨g, 0, none⟩) n c) L) := (hch.block zb zl (Ne.symm hrz)).trans hz
  have hs1 : w1.heap.size = w.heap.size := by rw [hw1, hw0]; simp [World.setCell]
  have hgl := hrow.lt
  have hc1 : ∀ i, i < n → w1.cell? ⟨g, 0 + i, none⟩ = some (.int .u64 (wd M i)) := fun i hi => by rw [Nat.zero_add, hch.cell (p := ⟨g, i, none⟩) hgl hgr, hrow.cell (by omega), hc i hi]
  have hb1 : Below B w w1 := by rw [hw1, hw0]; exact ((((Below.refl _ _).setCell hBr _).setCell hBr _).setCell hBr _).setCell hBr _
  obtain ⟨y0, y1, y2, y3, y4, y5, y6, yf, yl⟩ := fltRow hr1
  obtain ⟨x0, x1, x2, x3, x4, x5, x6, xf, xl⟩ := fltRow hz1
  have HSET := Lib.hid (set_some g 0 c n M w1.drew h0 (by omega) (by show g < w1.heap.size; omega) hc1)
  have hPn : ((53 : Int) < (P : Int)) := by omega
  have HW1 := Lib.hid hw1; have HW0 := Lib.hid hw0; have HB1 := Lib.hid hb1; have HR1 := Lib.hid hr1; have HZ1 := Lib.hid hz1; have HS1 := Lib.hid hs1; have HM := Lib.hid hM; have HZ := Lib.hid hz
  obtain ⟨t0, t1, t2, t3, t4, t5, t6, tf, tl⟩ := fltRow hz0
  obtain ⟨u0, u1, u2, u3, u4, u5, u6, uf, ul⟩ := fltRow hr0
  clear hw1 hw0 hb1 hr1 hz1 hs1 hM hz hr hz0 hr0 hrow hc hc1 hch hj hjs
  go_enter Tryz.func393, Tryz.ntmps393
  go_wp2_with fail
  rw [← HW0.out]
  rw [hpn]
  go_wp2_with fail
  rw [← HW1.out]
  go_region_law (first | (go_simp; go_at_call 156; refine HSET.out.mono ?_; rintro e w3 ⟨g3, c3, hg, hnc3, hc4, rfl, hb3, f3, hr3, hf3⟩; have hb3u := below_undrew hb3; have hrr3 := (hb3u.block rb yl).trans HR1.out; obtain ⟨q0, q1, q2, q3, q4, q5, q6, qf, ql⟩ := fltRow hrr3; have HG := Lib.hid (show g3 = w1.heap.size from hg); have HB3 := Lib.hid hb3u; have HR3 := Lib.hid hr3; have HF3 := Lib.hid hf3; have HRR3 := Lib.hid hrr3; have HZ3 := Lib.hid ((hb3u.block zb xl).trans HZ1.out); clear hb3 hb3u hr3 hf3 hrr3 hg))
  all_goals (
    obtain ⟨w4, hw4⟩ : ∃ w4, w4 = w3.setCell ⟨rb, 5, none⟩ (.slice (some ⟨g3, 0, none⟩) n c3) := ⟨_, rfl⟩
    have hgz : g3 ≠ rb := by have := HG.out; omega
    have hr4 : w4.heap[rb]? = some (fltObj 53 0 1 neg (.slice (some ⟨g3, 0, none⟩) n c3) L) := by rw [hw4]; exact set1 HRR3.out
    have hz4 : w4.heap[zb]? = some (fltObj P 0 1 neg (.slice (some ⟨g, 0, none⟩) n c) L) := by rw [hw4]; exact (Below.heap_setCell _ ⟨rb, 5, none⟩ _ zb (Ne.symm hrz)).trans HZ3.out
    have hw4r : Row w4 g3 228 c3 f3 := by rw [hw4]; exact HR3.out.far hgz _
    have hb4 : Below B w w4 := by rw [hw4]; exact (HB1.out.trans (HB3.out.mono (by show B ≤ w1.heap.size; have := HS1.out; omega))).setCell hBr _
    obtain ⟨v0, v1, v2, v3, v4, v5, v6, vf, vl⟩ := fltRow hr4
    obtain ⟨p0, p1, p2, p3, p4, p5, p6, pf, pl⟩ := fltRow hz4
    have HRO := Lib.hid (fun (k : Nat) => round_53 rb g3 c3 n M B 0 L neg f3 (w4.drewN k) hr4 (hw4r.drewN k) hgz hBr (by have := HG.out; have := HS1.out; omega) h0 hn hnc3 (by omega) HF3.out HM.out)
    have HBD := Lib.hid (fun (k : Nat) => belowN hb4 k)
    have HW4 := Lib.hid hw4; have HB4 := Lib.hid hb4; have HR4 := Lib.hid hr4; have HZ4 := Lib.hid hz4
    clear hw4 hb4 hr4 hz4 hw4r
    go_wp2_with fail
    rw [← HW4.out]
    go_quiet (fail)
    go_wp2_with fail
    refine (HRO.out _).mono ?_
    rintro e w5 ⟨rfl, h1, h2, h3⟩
    have HH := Lib.hid (And.intro h1 (And.intro h2 h3))
    clear h1 h2 h3
    go_wp2
    go_ret
    refine ⟨rfl, ⟨g3, c3, HH.out.1, by omega, by omega, HH.out.2.1⟩, (HBD.out _).trans HH.out.2.2⟩)
end Go.Proofs.YtgohhebffcldeaaGreatDoor

set_option linter.unusedVariables false
set_option linter.unusedSimpArgs false
namespace Go.Proofs.YtgohhebffcldeaaGreatDoor
open Go.RowKit
open Num

theorem top_word (M n fr : Nat) (h0 : 0 < n) (hfr : fr < 4503599627370496) (hM : M = (4503599627370496 + fr) * 2 ^ (64 * n - 53)) : wd M (n - 1) = (4503599627370496 + fr) * 2048 ∧ M % 2 ^ (64 * n - 53) = 0 := by
  refine ⟨?_, by rw [hM]; exact Nat.mul_mod_left _ _⟩
  unfold wd
  rw [hM, show 64 * n - 53 = 11 + 64 * (n - 1) by omega, Nat.pow_add, ← Nat.mul_assoc, Nat.mul_div_cancel _ (Nat.two_pow_pos _), show (2 : Nat) ^ 11 = 2048 by decide]
  exact Nat.mod_eq_of_lt (by omega)

theorem or52 (X fr : Nat) (hX : X < 4096) (hfr : fr < 4503599627370496) : bits .or .u64 ((X * 4503599627370496 : Nat) : Int) (fr : Int) = ((X * 4503599627370496 + fr : Nat) : Int) := by
  have h := bits_or_u64_nat (X * 4503599627370496) fr (by omega) (by omega)
  rw [h]
  have h2 := Nat.two_pow_add_eq_or_of_lt (i := 52) (b := fr) hfr X
  rw [show (2 : Nat) ^ 52 = 4503599627370496 by decide, Nat.mul_comm 4503599627370496 X] at h2
  rw [h2]
theorem or63 (e : Nat) (he : e < 2048) : bits .or .u64 9223372036854775808 ((e * 4503599627370496 : Nat) : Int) = (((2048 + e) * 4503599627370496 : Nat) : Int) := by
  have h := bits_or_u64_nat 9223372036854775808 (e * 4503599627370496) (by decide) (by omega)
  rw [show ((9223372036854775808 : Nat) : Int) = 9223372036854775808 from rfl] at h
  rw [h]
  have h2 := Nat.two_pow_add_eq_or_of_lt (i := 63) (b := e * 4503599627370496) (by omega) 1
  rw [show (2 : Nat) ^ 63 = 9223372036854775808 by decide, Nat.mul_one] at h2
  rw [← h2]
  congr 1
  omega
theorem or0 (E : Nat) (hE : E < 18446744073709551616) : bits .or .u64 0 (E : Int) = (E : Int) := by
  have h := bits_or_u64_nat 0 E (by decide) hE
  rw [Nat.zero_or] at h
  exact h

set_option maxRecDepth 100000 in
set_option maxHeartbeats 1000000 in
theorem Float64_any (zb g c n M P L F : Nat) (neg : Bool) (f : Nat → Value) (w : World) (hz : w.heap[zb]? = some (fltObj P 0 1 neg (.slice (some ⟨g, 0, none⟩) n c) L)) (hrow : Row w g 228 c f)
    (h0 : 0 < n) (hn : n ≤ 1048576) (hnc : n ≤ c) (hc2 : c ≤ 2147483651) (hc : ∀ i, i < n → f i = .int .u64 (wd M i)) (hP : 53 < P) (hP2 : P ≤ 67108864) (hL : 1 ≤ L) (hL2 : L ≤ 1024)
    (hF : F < 18446744073709551616) (hneg : fneg F = neg) (hexp : fexp F = L + 1022) (hM : M = (4503599627370496 + ffrac F) * 2 ^ (64 * n - 53)) :
    Calls Tryz.prog 389 #[.pointer (some ⟨zb, 0, none⟩)] w fun e w' => e = .returned (.tuple #[.float .f64 F, .int .i8 0]) ∧ Below w.heap.size w w' := by
  obtain ⟨z0, z1, z2, z3, z4, z5, z6, zf, zl⟩ := fltRow hz
  have hfr := ffrac_lt F
  obtain ⟨t1, t2⟩ := top_word M n (ffrac F) h0 hfr hM
  obtain ⟨w1, hw1⟩ : ∃ w1, w1 = w.alloc (fltObj 53 0 0 false (.slice none 0 0) 0) := ⟨_, rfl⟩
  have hb1 : Below w.heap.size w w1 := by rw [hw1]; exact (Below.refl _ _).alloc (Nat.le_refl _) _
  have hr1 : w1.heap[w.heap.size]? = some (fltObj 53 0 0 false (.slice none 0 0) 0) := by rw [hw1]; exact heap_alloc_new _ _
  have hz1 := (hb1.block zb zl).trans hz
  have hg := hrow.lt
  have HSET := Lib.hid (Set_53 w.heap.size zb g c n M P w.heap.size L neg f w1 hr1 hz1 (hrow.below hb1 hg) (by omega) (by omega) (Nat.le_refl _) h0 hn hnc hc2 hc hP hP2 t2)
  obtain ⟨T, hT⟩ : ∃ T, T = wd M (n - 1) := ⟨_, rfl⟩
  rw [← hT] at HSET t1
  have hT64 : T < 18446744073709551616 := by rw [hT]; exact wd_lt _ _
  have e1 : bits .and .u64 ((T : Int) / 2048) 4503599627370495 = (ffrac F : Int) := by
    have h1 : (T : Int) / 2048 = ((T / 2048 : Nat) : Int) := by omega
    rw [h1, and_frac (T / 2048) (by omega)]
    omega
  have HZ := Lib.hid hz; have HB1 := Lib.hid hb1; have HW1 := Lib.hid hw1; have HZ1 := Lib.hid hz1
  have he1 : (L : Int) - 1 + 1023 = ((fexp F : Nat) : Int) := by omega
  have hx : fexp F < 2048 := fexp_lt F
  have hxL : (fexp F : Int) = (L : Int) + 1022 := by omega
  clear hz hrow hc hb1 hr1 hz1 hM t1 t2 hw1 hT
  go_enter Tryz.func389, Tryz.ntmps389
  go_wp2_with fail
  rw [← HW1.out]
  refine HSET.out.mono ?_
  rintro e w2 ⟨rfl, ⟨g2, c2, hr2, hc21, hc22, hx2⟩, hb2⟩
  obtain ⟨r0, r1, r2, r3, r4, r5, r6, rf, rl⟩ := fltRow hr2
  obtain ⟨y0, y1, y2, y3, y4, y5, y6, yf, yl⟩ := fltRow ((hb2.block zb zl).trans HZ1.out)
  have HM := Lib.hid (msb64_any g2 c2 T w2 hx2 hc21 hc22)
  have HB2 := Lib.hid hb2
  clear hr2 hb2 hx2
  have hdec : F = (if neg then 2048 + fexp F else fexp F) * 4503599627370496 + ffrac F := by
    rw [← hneg]
    unfold fneg fexp ffrac
    by_cases h : F / 9223372036854775808 = 1
    · rw [h]; simp; omega
    · have : F / 9223372036854775808 = 0 := by omega
      rw [this]; simp; omega
  have hfb : ∀ W : World, (callFunc 35 #[.int .u64 (F : Int)]).run Tryz.prog W = .ok (.value (.float .f64 F)) W := run_frombits (F : Int)
  obtain ⟨E, hE⟩ : ∃ E, E = fexp F * 4503599627370496 := ⟨_, rfl⟩
  have hE2 : ((L : Int) + 1022) * 4503599627370496 = (E : Int) := by omega
  have HDEC := Lib.hid hdec; have HE := Lib.hid hE
  have hE3 : E < 9223372036854775808 := by omega
  clear hdec hE hneg hexp
  cases neg
  · have o1 : bits .or .u64 0 (E : Int) = (E : Int) := or0 E (by omega)
    have o2 : bits .or .u64 (E : Int) (ffrac F : Int) = (F : Int) := by
      have h := HDEC.out
      rw [if_neg (by decide)] at h
      have := or52 (fexp F) (ffrac F) (by omega) hfr
      rw [← h, ← HE.out] at this
      exact this
    go_wp2_with fail
    refine HM.out.mono ?_
    rintro e w3 ⟨rfl, rfl⟩
    go_wp2_with fail
    go_quiet (fail)
    go_wp2
    go_ret2
    exact ⟨rfl, belowN (HB1.out.trans (HB2.out.mono (Nat.le_refl _))) _⟩
  · obtain ⟨X, hX⟩ : ∃ X, X = (2048 + fexp F) * 4503599627370496 := ⟨_, rfl⟩
    have o1 : bits .or .u64 9223372036854775808 (E : Int) = (X : Int) := by rw [hX, HE.out]; exact or63 (fexp F) hx
    have o2 : bits .or .u64 (X : Int) (ffrac F : Int) = (F : Int) := by
      have h := HDEC.out
      rw [if_pos rfl] at h
      have := or52 (2048 + fexp F) (ffrac F) (by omega) hfr
      rw [← h, ← hX] at this
      exact this
    clear hX
    go_wp2_with fail
    refine HM.out.mono ?_
    rintro e w3 ⟨rfl, rfl⟩
    go_wp2_with fail
    go_quiet (fail)
    go_wp2
    go_ret2
    exact ⟨rfl, belowN (HB1.out.trans (HB2.out.mono (Nat.le_refl _))) _⟩
end Go.Proofs.YtgohhebffcldeaaGreatDoor

set_option linter.unusedVariables false
set_option linter.unusedSimpArgs false
namespace Go.Proofs.YtgohhebffcldeaaGreatDoor
open Go.RowKit
open Num

theorem IsUint64_any (b n c : Nat) (a : Option Addr) (neg : Bool) (w : World) (x0 : w.cell? ⟨b, 0, none⟩ = some (.bool neg)) (x1 : w.cell? ⟨b, 1, none⟩ = some (.slice a n c)) :
    Calls Tryz.prog 386 #[.pointer (some ⟨b, 0, none⟩)] w fun e w' => e = .returned (.bool (!neg && decide (n ≤ 1))) ∧ w' = w := by
  cases neg
  · by_cases h : n ≤ 1
    · have h2 : (n : Int) ≤ 1 := by omega
      rw [decide_eq_true h]
      clear h
      go_enter Tryz.func386, Tryz.ntmps386
      go_wp2
      go_ret
      exact ⟨rfl, rfl⟩
    · have h2 : ¬ ((n : Int) ≤ 1) := by omega
      rw [decide_eq_false h]
      clear h
      go_enter Tryz.func386, Tryz.ntmps386
      go_wp2
      go_ret
      exact ⟨rfl, rfl⟩
  · go_enter Tryz.func386, Tryz.ntmps386
    go_wp2
    go_ret
    exact ⟨rfl, rfl⟩

theorem Uint64_some (b g c n V : Nat) (w : World) (h0 : 0 < n) (hn : n ≤ 2147483648) (x1 : w.cell? ⟨b, 1, none⟩ = some (.slice (some ⟨g, 0, none⟩) n c))
    (hc : ∀ i, i < n → w.cell? ⟨g, 0 + i, none⟩ = some (.int .u64 (wd V i))) :
    Calls Tryz.prog 250 #[.pointer (some ⟨b, 0, none⟩)] w fun e w' => e = .returned (.int .u64 (wd V 0)) ∧ w = w' := by
  have HL := Lib.hid (low64_some g 0 c n V w h0 hn hc)
  clear hc
  go_enter Tryz.func250, Tryz.ntmps250
  go_wp2_with fail
  refine HL.out.mono ?_
  rintro e w' ⟨rfl, rfl⟩
  go_wp2
  go_ret
  exact ⟨rfl, rfl⟩

theorem IsInt64_big (b n c : Nat) (a : Option Addr) (w : World) (h : 2 ≤ n) (x1 : w.cell? ⟨b, 1, none⟩ = some (.slice a n c)) :
    Calls Tryz.prog 387 #[.pointer (some ⟨b, 0, none⟩)] w fun e w' => e = .returned (.bool false) ∧ w = w' := by
  have h2 : ¬ ((n : Int) ≤ 1) := by omega
  clear h
  go_enter Tryz.func387, Tryz.ntmps387
  go_wp2
  go_ret
  exact ⟨rfl, rfl⟩

theorem IsInt64_one (b g c V : Nat) (w : World) (hV : V < 18446744073709551616) (x0 : w.cell? ⟨b, 0, none⟩ = some (.bool true)) (x1 : w.cell? ⟨b, 1, none⟩ = some (.slice (some ⟨g, 0, none⟩) 1 c))
    (hc : w.cell? ⟨g, 0, none⟩ = some (.int .u64 V)) :
    Calls Tryz.prog 387 #[.pointer (some ⟨b, 0, none⟩)] w fun e w' => e = .returned (.bool (decide (V ≤ 9223372036854775808))) ∧ w = w' := by
  have hw0 : wd V 0 = V := by unfold wd; simp; omega
  have HL := Lib.hid (low64_some g 0 c 1 V w (by omega) (by omega) (fun i hi => by have hi0 : i = 0 := (by omega); subst hi0; rw [hw0]; exact hc))
  rw [hw0] at HL
  clear hc hw0
  by_cases h1 : V < 9223372036854775808
  · have hw : IntKind.i64.wrap (V : Int) = (V : Int) := by simp only [IntKind.wrap_i64]; omega
    have hge : (0 : Int) ≤ (V : Int) := by omega
    rw [decide_eq_true (by omega)]
    go_enter Tryz.func387, Tryz.ntmps387
    go_wp2_with fail
    refine HL.out.mono ?_
    rintro e w' ⟨rfl, rfl⟩
    go_wp2
    go_ret
    exact ⟨rfl, rfl⟩
  · obtain ⟨u, hu⟩ : ∃ u : Int, u = (V : Int) - 18446744073709551616 := ⟨_, rfl⟩
    have hw : IntKind.i64.wrap (V : Int) = u := by simp only [IntKind.wrap_i64]; omega
    have hlt : ¬ ((0 : Int) ≤ u) := by omega
    by_cases h2 : V = 9223372036854775808
    · have hwn : IntKind.i64.wrap (-u) = u := by simp only [IntKind.wrap_i64]; omega
      rw [decide_eq_true (by omega)]
      clear hu h1 h2
      go_enter Tryz.func387, Tryz.ntmps387
      go_wp2_with fail
      refine HL.out.mono ?_
      rintro e w' ⟨rfl, rfl⟩
      go_wp2
      go_ret
      exact ⟨by first | rfl | simp [hlt, hwn], rfl⟩
    · have hwn : IntKind.i64.wrap (-u) = -u := by simp only [IntKind.wrap_i64]; omega
      have hne : (u == -u) = false := by rw [beq_eq_false_iff_ne]; omega
      rw [decide_eq_false (by omega)]
      clear hu h1 h2
      go_enter Tryz.func387, Tryz.ntmps387
      go_wp2_with fail
      refine HL.out.mono ?_
      rintro e w' ⟨rfl, rfl⟩
      go_wp2
      go_ret
      exact ⟨by first | rfl | simp [hlt, hwn, hne], rfl⟩

theorem Int64_neg (b g c V : Nat) (w : World) (h0 : 0 < V) (hV : V ≤ 9223372036854775808) (x0 : w.cell? ⟨b, 0, none⟩ = some (.bool true)) (x1 : w.cell? ⟨b, 1, none⟩ = some (.slice (some ⟨g, 0, none⟩) 1 c))
    (hc : w.cell? ⟨g, 0, none⟩ = some (.int .u64 V)) :
    Calls Tryz.prog 130 #[.pointer (some ⟨b, 0, none⟩)] w fun e w' => e = .returned (.int .i64 (-(V : Int))) ∧ w = w' := by
  have hw0 : wd V 0 = V := by unfold wd; simp; omega
  have HL := Lib.hid (low64_some g 0 c 1 V w (by omega) (by omega) (fun i hi => by have hi0 : i = 0 := (by omega); subst hi0; rw [hw0]; exact hc))
  rw [hw0] at HL
  clear hc hw0
  obtain ⟨u, hu⟩ : ∃ u : Int, u = IntKind.i64.wrap (V : Int) := ⟨_, rfl⟩
  have hw : IntKind.i64.wrap (-u) = -(V : Int) := by
    simp only [IntKind.wrap_i64] at hu ⊢
    omega
  have hu' := hu.symm
  clear hu
  go_enter Tryz.func130, Tryz.ntmps130
  go_wp2_with fail
  refine HL.out.mono ?_
  rintro e w' ⟨rfl, rfl⟩
  go_wp2
  go_ret
  exact ⟨rfl, rfl⟩
end Go.Proofs.YtgohhebffcldeaaGreatDoor

set_option linter.unusedVariables false
set_option linter.unusedSimpArgs false
namespace Go.Proofs.YtgohhebffcldeaaGreatDoor
open Go.RowKit
open Num

theorem fofi (neg : Bool) (V : Nat) (h : neg = true → 0 < V) : floatOfInt .f64 (if neg then -(V : Int) else (V : Int)) = Ieee.double.nearest neg V 0 := by
  show Ieee.double.nearest (decide ((if neg then -(V : Int) else (V : Int)) < 0)) (if neg then -(V : Int) else (V : Int)).natAbs 0 = _
  cases neg
  · rw [if_neg (by decide), decide_eq_false (by omega), Int.natAbs_natCast]
  · have := h rfl
    rw [if_pos rfl, decide_eq_true (by omega), Int.natAbs_neg, Int.natAbs_natCast]

/-- F is the double that the number V with the sign neg is -/
def IsF (F : Nat) (neg : Bool) (V : Nat) : Prop := F < 18446744073709551616 ∧ fexp F ≠ 2047 ∧ (V = 0 → F = 0) ∧ (0 < V → IsV F V ∧ fneg F = neg)
theorem IsF.nearest {F V : Nat} {neg : Bool} (h : IsF F neg V) (hneg : neg = true → 0 < V) : Ieee.double.nearest neg V 0 = F := by
  rcases Nat.eq_zero_or_pos V with h0 | h0
  · have hn : neg = false := by
      cases neg
      · rfl
      · have := hneg rfl; omega
    rw [hn, h0, h.2.2.1 h0]
    exact nearest_zero
  · have := h.2.2.2 h0
    rw [← this.2]
    exact this.1.exact h.1 h.2.1 h0

set_option maxRecDepth 100000 in
set_option maxHeartbeats 1000000 in
theorem Float_any (v : Value) (base : Nat) (neg : Bool) (V F : Nat) (w : World) (hI : IntIs w base v neg V) (hneg : neg = true → 0 < V) (hF : IsF F neg V) :
    Calls Tryz.prog 385 #[v] w fun e w' => e = .returned (.float .f64 F) ∧ Below w.heap.size w w' := by
  have hnear := hF.nearest hneg
  have hfo := fofi neg V hneg
  rw [hnear] at hfo
  rcases hI with ⟨hs, rfl⟩ | ⟨hs, b, s, n, g, c, f, rfl, hbb, hh, h0, hN, hn, rfl, hg, hnc, hcc, hr, hf⟩
  · obtain ⟨z, hz⟩ : ∃ z : Int, z = (if neg then -(V : Int) else (V : Int)) := ⟨_, rfl⟩
    rw [← hz] at hfo ⊢
    have HG := Lib.hid (fun W => get_any z none W)
    clear hz hnear hs hF hneg
    go_enter Tryz.func385, Tryz.ntmps385
    go_wp2_with fail
    refine (HG.out _).mono ?_
    rintro e w2 ⟨rfl, hb2⟩
    have hb := ((Below.refl w.heap.size w).alloc (Nat.le_refl _) (.cells #[.int .i64 z, .pointer none] 97)).trans (hb2.mono (by simp))
    have HB := Lib.hid hb
    clear hb hb2
    go_wp2
    go_ret
    exact ⟨rfl, HB.out⟩
  · have hV : 0 < V := by
      have := hN.2 h0
      have := Nat.two_pow_pos (64 * (n - 1))
      omega
    obtain ⟨hv1, hv2⟩ := hF.2.2.2 hV
    have HG := Lib.hid (fun W => get_any 0 (some ⟨b, 0, none⟩) W)
    obtain ⟨w1, hw1⟩ : ∃ w1, w1 = w.alloc (.cells #[.int .i64 0, .pointer (some ⟨b, 0, none⟩)] 97) := ⟨_, rfl⟩
    have hb1 : Below w.heap.size w w1 := by rw [hw1]; exact (Below.refl _ _).alloc (Nat.le_refl _) _
    have hbl := (Array.getElem?_eq_some_iff.1 hh).1
    have HK := Lib.hid (fun (W : World) (hb : Below w.heap.size w W) => (show W.heap[b]? = some (.cells #[.bool neg, .slice (some ⟨g, 0, none⟩) n c] 142 (0, 0)) from (hb.block b hbl).trans hh))
    have HX0 := Lib.hid (fun (W : World) (hb : Below w.heap.size w W) => (show W.cell? ⟨b, 0, none⟩ = some (.bool neg) from (cell_of_row W b 0 _ _ (0, 0) (HK.out W hb)).trans rfl))
    have HX1 := Lib.hid (fun (W : World) (hb : Below w.heap.size w W) => (show W.cell? ⟨b, 1, none⟩ = some (.slice (some ⟨g, 0, none⟩) n c) from (cell_of_row W b 1 _ _ (0, 0) (HK.out W hb)).trans rfl))
    have HC := Lib.hid (fun (W : World) (hb : Below w.heap.size w W) (i : Nat) (hi : i < n) => (show W.cell? ⟨g, i, none⟩ = some (.int .u64 (wd V i)) from by rw [(hr.below hb hr.lt).cell (by omega), hf i hi]))
    have HGL := Lib.hid hr.lt
    have HW1 := Lib.hid hw1; have HB1 := Lib.hid hb1; have HN := Lib.hid hN; have HFF := Lib.hid hF; have HV := Lib.hid (And.intro hv1 hv2)
    have hn2 : n ≤ 16777216 := hn
    clear hh hr hf hw1 hb1 hN hF hv1 hv2 hnear hs
    go_enter Tryz.func385, Tryz.ntmps385
    go_wp2_with fail
    rw [← HW1.out]
    refine (HG.out _).mono ?_
    rintro e w2 ⟨rfl, hb2⟩
    have HB2 := Lib.hid (HB1.out.trans (hb2.mono HB1.out.size))
    have HU := Lib.hid (IsUint64_any b n c _ neg w2 (HX0.out w2 HB2.out) (HX1.out w2 HB2.out))
    clear hb2
    go_wp2_with fail
    refine HU.out.mono ?_
    rintro e w3 ⟨rfl, rfl⟩
    by_cases hu : (!neg && decide (n ≤ 1)) = true
    · rw [hu]
      simp at hu
      obtain ⟨rfl, hn1⟩ := hu
      have hw0 : wd V 0 = V := by
        have := HN.out.1
        obtain rfl : n = 1 := by omega
        unfold wd; simp at this ⊢; omega
      have HU2 := Lib.hid (Uint64_some b g c n V w3 h0 (by omega) (HX1.out w3 HB2.out) (fun i hi => by rw [Nat.zero_add]; exact HC.out w3 HB2.out i hi))
      rw [hw0] at HU2
      rw [if_neg (by decide)] at hfo
      clear hw0
      go_wp2_with fail
      refine HU2.out.mono ?_
      rintro e w4 ⟨rfl, rfl⟩
      go_wp2
      go_ret
      exact ⟨by first | rfl | simp [hfo], HB2.out⟩
    · rw [Bool.eq_false_iff.2 hu]
      by_cases hi : neg = true ∧ n = 1 ∧ V ≤ 9223372036854775808
      · obtain ⟨rfl, rfl, hV63⟩ := hi
        have hw0 : wd V 0 = V := by unfold wd; simp; omega
        have hc0 := HC.out w3 HB2.out 0 (by omega)
        rw [hw0] at hc0
        have HI := Lib.hid (IsInt64_one b g c V w3 (by omega) (HX0.out w3 HB2.out) (HX1.out w3 HB2.out) hc0)
        rw [decide_eq_true hV63] at HI
        have HI2 := Lib.hid (Int64_neg b g c V w3 hV hV63 (HX0.out w3 HB2.out) (HX1.out w3 HB2.out) hc0)
        rw [if_pos rfl] at hfo
        clear hw0 hc0 hu
        go_wp2_with fail
        refine HI.out.mono ?_
        rintro e w4 ⟨rfl, rfl⟩
        go_wp2_with fail
        refine HI2.out.mono ?_
        rintro e w5 ⟨rfl, rfl⟩
        go_wp2
        go_ret
        exact ⟨by first | rfl | simp [hfo], HB2.out⟩
      · have HI : Hid (Calls Tryz.prog 387 #[.pointer (some ⟨b, 0, none⟩)] w3 fun e w' => e = .returned (.bool false) ∧ w3 = w') := Lib.hid (by
          by_cases h2 : 2 ≤ n
          · exact IsInt64_big b n c _ w3 h2 (HX1.out w3 HB2.out)
          · obtain rfl : n = 1 := by omega
            have hneg1 : neg = true := by
              cases neg
              · exact absurd (by simp) hu
              · rfl
            subst hneg1
            have hV63 : ¬ (V ≤ 9223372036854775808) := fun h => hi ⟨rfl, rfl, h⟩
            have hV64 := HN.out.1
            have hw0 : wd V 0 = V := by unfold wd; simp at hV64 ⊢; omega
            have hc0 := HC.out w3 HB2.out 0 (by omega)
            rw [hw0] at hc0
            have := IsInt64_one b g c V w3 (by simp at hV64; omega) (HX0.out w3 HB2.out) (HX1.out w3 HB2.out) hc0
            rw [decide_eq_false hV63] at this
            exact this)
        have HBL := Lib.hid (BitLen_some b 0 g 0 c n V w3 h0 (by omega) HN.out (HX1.out w3 HB2.out) (fun i hi => by rw [Nat.zero_add]; exact HC.out w3 HB2.out i hi))
        clear hi hu
        go_wp2_with fail
        refine HI.out.mono ?_
        rintro e w4 ⟨rfl, rfl⟩
        go_wp2_with fail
        refine HBL.out.mono ?_
        rintro e w5 ⟨⟨L, hL1, hL2, hL3, hL4, hL5, rfl⟩, rfl⟩
        obtain ⟨ht1, ht2⟩ := HV.out.1.top hV HFF.out.2.1 n L hL4 hL5 hL2 h0
        have hfx := fexp_lt F
        have hL1024 : L ≤ 1024 := by have := HFF.out.2.1; omega
        have hnle : ¬ (1024 < (L : Int)) := by omega
        obtain ⟨w6, hw6⟩ : ∃ w6, w6 = w3.alloc (fltObj 0 0 0 false (.slice none 0 0) 0) := ⟨_, rfl⟩
        have hb36 : Below w3.heap.size w3 w6 := by rw [hw6]; exact (Below.refl _ _).alloc (Nat.le_refl _) _
        have hz6 : w6.heap[w3.heap.size]? = some (fltObj 0 0 0 false (.slice none 0 0) 0) := by rw [hw6]; exact heap_alloc_new _ _
        have hb6 := HB2.out.trans (hb36.mono HB2.out.size)
        have hsz := HB2.out.size
        have HSI := Lib.hid (SetInt_any w3.heap.size b g c n V w3.heap.size neg w6 hz6 (HK.out w6 hb6) (by have := hbl; omega) (by have := HGL.out; omega) (by have := HGL.out; have := hb6.size; omega) (Nat.le_refl _) h0 (by omega) HN.out (fun i hi => HC.out w6 hb6 i hi))
        have HW6 := Lib.hid hw6; have HB6 := Lib.hid hb6; have HE := Lib.hid (And.intro ht1 ht2); have HLL := Lib.hid (And.intro hL4 hL5)
        clear ht1 ht2 hw6 hb36 hz6 hb6 hL4 hL5 hfx
        go_wp2_with fail
        rw [← HW6.out]
        refine HSI.out.mono ?_
        rintro e w7 ⟨rfl, ⟨L', P, g2, c2, f2, k1, k2, k3, k4, k5, k6, k7, k8, k9, k10, k11⟩, hb7⟩
        obtain rfl : L' = L := bits_uniq k3 k4 HLL.out.1 HLL.out.2 k1 hL1
        have HF64 := Lib.hid (Float64_any w3.heap.size g2 c2 n (V * 2 ^ (64 * n - L')) P L' F neg f2 w7 k6 k10 h0 (by omega) k8 k9 k11 (by omega) (by omega) hL1 hL1024 HFF.out.1 HV.out.2 HE.out.1 HE.out.2)
        have HB7 := Lib.hid (HB6.out.trans (hb7.mono hsz))
        clear k3 k4 k5 k6 k7 k8 k9 k10 k11 hb7
        go_wp2_with fail
        refine HF64.out.mono ?_
        rintro e w8 ⟨rfl, hb8⟩
        have HB8 := Lib.hid (HB7.out.trans (hb8.mono HB7.out.size))
        clear hb8
        go_wp2
        go_ret
        exact ⟨rfl, HB8.out⟩
end Go.Proofs.YtgohhebffcldeaaGreatDoor
