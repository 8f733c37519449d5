import Derived.Test.YtjkmppdmejgjiaaGreatDoorEz15
import Derived.Test.YtjkmppdmejgjiaaGreatDoorEz19
import Derived.Test.YtjkmppdmejgjiaaGreatDoorEz20
/- Walks: Float.rational, Num, Denom, Int.Div by 1; finiteFloatToInt of big floats. -/
set_option linter.unusedVariables false
set_option linter.unusedSimpArgs false
namespace Go.Proofs.YtjkmppdmejgjiaaGreatDoor
open Go.RowKit
open Num

/-- a Rat that is a whole number -/
structure RatIs (w : World) (rb : Nat) (neg : Bool) (V : Nat) (gx cx gy cy n : Nat) : Prop where
  heap : w.heap[rb]? = some (.cells #[.bool neg, .slice (some ⟨gx, 0, none⟩) n cx, .bool false, .slice (some ⟨gy, 0, none⟩) 1 cy] 171 (0, 0))
  nw : Nw n V
  pos : 0 < n
  le : n ≤ 1024
  rowx : ∃ f, n ≤ cx ∧ Row w gx 195 cx f ∧ ∀ i, i < n → f i = .int .u64 (wd V i)
  rowy : ∃ f, 1 ≤ cy ∧ Row w gy 195 cy f ∧ f 0 = .int .u64 1

theorem RatIs.below {w w' : World} {rb : Nat} {neg : Bool} {V gx cx gy cy n : Nat} (h : RatIs w rb neg V gx cx gy cy n) (hb : Below w.heap.size w w') : RatIs w' rb neg V gx cx gy cy n := by
  obtain ⟨f, h1, h2, h3⟩ := h.rowx
  obtain ⟨f2, k1, k2, k3⟩ := h.rowy
  exact ⟨(hb.block _ (Array.getElem?_eq_some_iff.1 h.heap).1).trans h.heap, h.nw, h.pos, h.le, ⟨f, h1, h2.below hb h2.lt, h3⟩, ⟨f2, k1, k2.below hb k2.lt, k3⟩⟩

set_option maxRecDepth 100000 in
theorem rational_big (B k : Nat) (hB : B < 18446744073709551616) (hf : fexp B ≠ 2047) (hk : fplace B = (k : Int)) (hk11 : 11 ≤ k) (w : World) :
    Calls Tryz.prog 60 #[.float .f64 B] w fun e w' => e = .returned (.pointer (some ⟨w.heap.size, 0, none⟩)) ∧ (∃ gx cx gy cy n, RatIs w' w.heap.size (fneg B) (fman B * 2 ^ k) gx cx gy cy n) ∧ Below w.heap.size w w' := by
  have hz : (w.alloc (.cells #[.bool false, .slice none 0 0, .bool false, .slice none 0 0] 171)).heap[w.heap.size]? = some (.cells #[.bool false, .slice none 0 0, .bool false, .slice none 0 0] 171 (0, 0)) := heap_alloc_new _ _
  have HS := Lib.hid (SetFloat64_big w.heap.size B k hB hf hk hk11 _ hz)
  have hb0 : Below w.heap.size w (w.alloc (.cells #[.bool false, .slice none 0 0, .bool false, .slice none 0 0] 171)) := (Below.refl _ _).alloc (Nat.le_refl _) _
  have HB0 := Lib.hid hb0
  clear hz hk hf hb0
  go_enter Tryz.func60, Tryz.ntmps60
  go_wp2_with fail
  refine HS.out.mono ?_
  rintro e w2 ⟨rfl, gx, cx, gy, cy, n, f, f2, h1, h2, h3, h4, h5, h6, h7, h8, h9, h10, h11, h12, h13⟩
  have H := Lib.hid (show RatIs w2 w.heap.size (fneg B) (fman B * 2 ^ k) gx cx gy cy n from ⟨h1, h2, h3, h4, ⟨f, h5, h9, h10⟩, ⟨f2, h6, h11, h12⟩⟩)
  have HC := Lib.hid h13
  clear h1 h2 h3 h4 h5 h6 h7 h8 h9 h10 h11 h12 h13
  go_wp2
  go_ret
  exact ⟨rfl, ⟨gx, cx, gy, cy, n, H.out⟩, Chg.below HB0.out HB0.out.size HC.out (Nat.le_refl _)⟩

theorem Num_any (rb : Nat) (w : World) :
    Calls Tryz.prog 286 #[.pointer (some ⟨rb, 0, none⟩)] w fun e w' => e = .returned (.pointer (some ⟨rb, 0, none⟩)) ∧ w' = w := by
  go_enter Tryz.func286, Tryz.ntmps286
  go_wp2
  go_ret
  exact ⟨rfl, rfl⟩
theorem Denom_any (rb : Nat) (a : Option Addr) (c : Nat) (w : World) (h : w.cell? ⟨rb, 3, none⟩ = some (.slice a 1 c)) :
    Calls Tryz.prog 287 #[.pointer (some ⟨rb, 0, none⟩)] w fun e w' => e = .returned (.pointer (some ⟨rb, 2, none⟩)) ∧ w' = w := by
  go_enter Tryz.func287, Tryz.ntmps287
  go_wp2
  go_ret
  exact ⟨rfl, rfl⟩

theorem Div_one (zb rb : Nat) (neg : Bool) (V gx cx gy cy n : Nat) (w : World) (h : RatIs w rb neg V gx cx gy cy n) (hz : w.heap[zb]? = some (.cells #[.bool false, .slice none 0 0] 159 (0, 0))) (hne : zb ≠ rb) :
    Calls Tryz.prog 151 #[.pointer (some ⟨zb, 0, none⟩), .pointer (some ⟨rb, 0, none⟩), .pointer (some ⟨rb, 2, none⟩)] w fun e w' => e = .returned (.pointer (some ⟨zb, 0, none⟩)) ∧ IntObj w' zb 0 neg n V ∧ Chg zb w w' := by
  have lz := (Array.getElem?_eq_some_iff.1 hz).1
  have lr := (Array.getElem?_eq_some_iff.1 h.heap).1
  obtain ⟨w1, hw1⟩ : ∃ w1, w1 = w.alloc (.cells #[.bool false, .slice none 0 0] 159) := ⟨_, rfl⟩
  have hb1 : Below w.heap.size w w1 := by rw [hw1]; exact (Below.refl _ _).alloc (Nat.le_refl _) _
  have hs1 : w1.heap.size = w.heap.size + 1 := by rw [hw1]; simp
  have hq1 : w1.heap[w.heap.size]? = some (.cells #[.bool false, .slice none 0 0] 159 (0, 0)) := by rw [hw1]; exact heap_alloc_new _ _
  have h1 := h.below hb1
  obtain ⟨f, x1, x2, x3⟩ := h1.rowx
  obtain ⟨f2, y1, y2, y3⟩ := h1.rowy
  have z2 : w.cell? ⟨rb, 2, none⟩ = some (.bool false) := (cell_of_row w _ 2 _ _ (0, 0) h.heap).trans rfl
  have HQ := Lib.hid (QuoRem_one zb w.heap.size rb 0 rb 2 gx 0 cx gy 0 cy n V false false neg false _ _ _ _ _ _ w1 h1.pos (by have := h1.le; omega) h1.nw.1 x2.lt y2.lt ((hb1.block _ lz).trans hz) hq1 h1.heap rfl rfl h1.heap rfl rfl (fun i hi => by rw [Nat.zero_add, x2.cell (by omega), x3 i hi]) (by rw [y2.cell (by omega), y3]) (by omega) hne hne (by omega) (by omega))
  have HW := Lib.hid hw1; have HB1 := Lib.hid hb1; have HS1 := Lib.hid hs1; have HH := Lib.hid h
  clear hw1 hb1 hs1 hq1 h1 x1 x2 x3 y1 y2 y3 hz h
  go_enter Tryz.func151, Tryz.ntmps151
  go_wp2_with fail
  rw [← HW.out]
  refine HQ.out.mono ?_
  rintro e w2 ⟨rfl, c, f', q1, q2, q3, q4, q5, q6, q7, q8, q9, q10, q11⟩
  have r0 : w2.cell? ⟨w.heap.size, 0, none⟩ = some (.bool false) := (cell_of_row w2 _ 0 _ _ (0, 0) q2).trans rfl
  have hs := HS1.out
  have hI : IntObj w2 zb 0 neg n V := by
    refine ⟨_, _, _, q1, ?_, rfl, HH.out.nw, by have := HH.out.le; omega, .inr ⟨HH.out.pos, w1.heap.size, 0, c, rfl, q5.lt, fun i hi => ?_⟩⟩
    · cases neg <;> rfl
    · rw [Nat.zero_add, q5.cell (by omega), q6 i hi]
  have hC : Chg zb w w2 := ⟨q9.trans HB1.out.os, q10.trans HB1.out.tape, q11.trans HB1.out.output, by omega, fun k hk hg => (q7 k (by omega) hg (by omega)).trans (HB1.out.block k hk)⟩
  have HI := Lib.hid hI; have HC := Lib.hid hC
  clear q1 q2 q3 q4 q5 q6 q7 q8 q9 q10 q11 hI hC hs
  go_wp2
  go_ret
  exact ⟨rfl, HI.out, HC.out⟩

end Go.Proofs.YtjkmppdmejgjiaaGreatDoor

/- Walks: finiteFloatToInt of big floats, and of any finite float. -/
set_option linter.unusedVariables false
set_option linter.unusedSimpArgs false
namespace Go.Proofs.YtjkmppdmejgjiaaGreatDoor
open Go.RowKit
open Num

set_option maxHeartbeats 400000 in
theorem f2i_big (B k : Nat) (hB : B < 18446744073709551616) (hf : fexp B ≠ 2047) (hk : fplace B = (k : Int)) (hk11 : 11 ≤ k) (hns : ¬ (fneg B = true ∧ fplace B = 11 ∧ fman B = 4503599627370496)) (w : World) :
    Calls Tryz.prog 284 #[.float .f64 B] w fun e w' => ∃ v, e = .returned v ∧ IntIs w' w.heap.size v (fneg B && decide (0 < fwhole B)) (fwhole B) ∧ Below w.heap.size w w' := by
  have hM := fman_lt B
  have hMh := fplace_hi (B := B) (by omega)
  have hfw : fwhole B = fman B * 2 ^ k := by unfold fwhole; rw [if_pos (by omega), hk]; rfl
  have hpos : 0 < fman B * 2 ^ k := Nat.mul_pos (by omega) (Nat.two_pow_pos k)
  have hneg : (fneg B && decide (0 < fwhole B)) = fneg B := by rw [hfw]; simp [hpos]
  rw [hneg, hfw]
  have ho : ∃ o1 o2, (FloatKind.f64.format.order 14114281232179134464 B == some .lt || FloatKind.f64.format.order 14114281232179134464 B == some .eq) = o1 ∧ (FloatKind.f64.format.order B 4890909195324358656 == some .lt) = o2 ∧ (o1 = false ∨ (o1 = true ∧ o2 = false)) := by
    refine ⟨_, _, ge_m2_63 B hB hf, lt_2_63 B hB hf, ?_⟩
    have hp : ¬ (fplace B ≤ 10) := by omega
    cases hn : fneg B
    · right; simp [hp]
    · left
      have : ¬ (fplace B = 11 ∧ fman B = 4503599627370496) := fun q => hns ⟨hn, q.1, q.2⟩
      simp [hp, this]
  obtain ⟨o1, o2, ho1, ho2, hoo⟩ := ho
  obtain ⟨w1, hw1⟩ : ∃ w1, w1 = w.alloc (.cells #[.int .i64 0, .pointer none] 105) := ⟨_, rfl⟩
  have hb1 : Below w.heap.size w w1 := by rw [hw1]; exact (Below.refl _ _).alloc (Nat.le_refl _) _
  have hs1 : w1.heap.size = w.heap.size + 1 := by rw [hw1]; simp
  have hq1 : w1.heap[w.heap.size]? = some (.cells #[.int .i64 0, .pointer none] 105 (0, 0)) := by rw [hw1]; exact heap_alloc_new _ _
  have HRT := Lib.hid (rational_big B k hB hf hk hk11 w1)
  have HW1 := Lib.hid hw1; have HB1 := Lib.hid hb1; have HS1 := Lib.hid hs1; have HQ1 := Lib.hid hq1
  clear hw1 hb1 hs1 hq1 hk hf hns hM hMh hfw hpos hneg
  rcases hoo with rfl | ⟨rfl, rfl⟩
  all_goals (
    go_enter Tryz.func284, Tryz.ntmps284
    go_wp2_with fail
    rw [← HW1.out]
    refine HRT.out.mono ?_
    rintro e w2 ⟨rfl, ⟨gx, cx, gy, cy, n, hrat⟩, hb2⟩
    have hs1 := HS1.out
    have hbw2 : Below w.heap.size w w2 := HB1.out.trans (hb2.mono (by omega))
    have hs2 : w1.heap.size < w2.heap.size := (Array.getElem?_eq_some_iff.1 hrat.heap).1
    have hq2 := (hb2.block w.heap.size (by omega)).trans HQ1.out
    obtain ⟨w3, hw3⟩ : ∃ w3, w3 = w2.alloc (.cells #[.bool false, .slice none 0 0] 159) := ⟨_, rfl⟩
    have hb23 : Below w2.heap.size w2 w3 := by rw [hw3]; exact (Below.refl _ _).alloc (Nat.le_refl _) _
    have hz3 : w3.heap[w2.heap.size]? = some (.cells #[.bool false, .slice none 0 0] 159 (0, 0)) := by rw [hw3]; exact heap_alloc_new _ _
    have hr3 := hrat.below hb23
    have hbw3 : Below w.heap.size w w3 := hbw2.trans (hb23.mono (by omega))
    have hq3 := (hb23.block w.heap.size (by omega)).trans hq2
    have h33 : w3.cell? ⟨w1.heap.size, 3, none⟩ = some (.slice (some ⟨gy, 0, none⟩) 1 cy) := (cell_of_row w3 _ 3 _ _ (0, 0) hr3.heap).trans rfl
    have HNU := Lib.hid (Num_any w1.heap.size w3)
    have HDE := Lib.hid (Denom_any w1.heap.size _ _ w3 h33)
    have HDI := Lib.hid (Div_one w2.heap.size w1.heap.size _ _ _ _ _ _ _ w3 hr3 hz3 (by omega))
    have HW3 := Lib.hid hw3; have HBW3 := Lib.hid hbw3; have HQ3 := Lib.hid hq3; have HS2 := Lib.hid hs2
    have HB23 := Lib.hid hb23
    clear hw3 hb23 hz3 hr3 hbw3 hq3 h33 hbw2 hq2 hb2 hs2 hs1 hrat
    go_wp2_with fail
    rw [← HW3.out]
    refine HNU.out.mono ?_
    rintro e w3' ⟨rfl, rfl⟩
    go_wp2_with fail
    refine HDE.out.mono ?_
    rintro e w3'' ⟨rfl, rfl⟩
    go_wp2_with fail
    refine HDI.out.mono ?_
    rintro e w4 ⟨rfl, hobj, hch4⟩
    have hs1 := HS1.out
    have hs2 := HS2.out
    have hbw4 : Below w.heap.size w w4 := Chg.below HBW3.out HBW3.out.size hch4 (by omega)
    have hq4 := (hch4.block w.heap.size (by have := HBW3.out.size; have := HB23.out.size; omega) (by omega)).trans HQ3.out
    have hs4 : w.heap.size < w4.heap.size := (Array.getElem?_eq_some_iff.1 hq4).1
    have HMB := Lib.hid (MakeBigInt_any w2.heap.size 0 n (fman B * 2 ^ k) (fneg B) w4 hobj)
    have HBW4 := Lib.hid hbw4; have HQ4 := Lib.hid hq4; have HS4 := Lib.hid hs4
    clear hobj hch4 hbw4 hq4 hs1 hs2 hs4
    go_wp2_with fail
    refine HMB.out.mono ?_
    rintro e w5 ⟨v, rfl, hI, hb5⟩
    obtain ⟨zz, pp, rfl⟩ := hI.shape
    have hs4 := HS4.out
    have hq5 := (hb5.block w.heap.size hs4).trans HQ4.out
    have hb6 := HBW4.out.trans (hb5.mono (by omega))
    have c0 := (cell_of_row _ _ 0 _ _ (0, 0) hq5).trans rfl
    have c1 := (cell_of_row _ _ 1 _ _ (0, 0) hq5).trans rfl
    have f0 : ∀ i, w5.frozen? ⟨w.heap.size, i, none⟩ = false := fun i => by simp [World.frozen?, hq5]
    have HI := Lib.hid hI; have HB6 := Lib.hid hb6; have HQ5 := Lib.hid hq5
    clear hI hb5 hq5 hb6 hs4
    go_wp2
    have hW := set2 (x := .int .i64 zz) (y := .pointer pp) HQ5.out
    have e0 := (cell_of_row _ _ 0 _ _ (0, 0) hW).trans rfl
    have e1 := (cell_of_row _ _ 1 _ _ (0, 0) hW).trans rfl
    exact bodyPost_ret (v := .agg #[.int .i64 zz, .pointer pp]) (by simp [results, Tryz.results284, go_sem, e0, e1]) rfl ⟨_, rfl, ((HI.out.far HS4.out _).far HS4.out _).base_le (by have := HS4.out; omega), (HB6.out.setCell (by simp) _).setCell (by simp) _⟩)

theorem f2i_any (B : Nat) (hB : B < 18446744073709551616) (hf : fexp B ≠ 2047) (w : World) :
    Calls Tryz.prog 284 #[.float .f64 B] w fun e w' => ∃ v, e = .returned v ∧ IntIs w' w.heap.size v (fneg B && decide (0 < fwhole B)) (fwhole B) ∧ Below w.heap.size w w' := by
  by_cases h : fplace B ≤ 10 ∨ (fneg B = true ∧ fplace B = 11 ∧ fman B = 4503599627370496)
  · exact f2i_small B hB hf h w
  · have h1 : ¬ (fplace B ≤ 10) := fun q => h (.inl q)
    obtain ⟨k, hk⟩ := Int.eq_ofNat_of_zero_le (show 0 ≤ fplace B by omega)
    exact f2i_big B k hB hf hk (by omega) (fun q => h (.inr q)) w

end Go.Proofs.YtjkmppdmejgjiaaGreatDoor

/- Walk: a float's hash. -/
set_option linter.unusedVariables false
set_option linter.unusedSimpArgs false
namespace Go.Proofs.YtjkmppdmejgjiaaGreatDoor
open Go.RowKit
open Num

theorem Hash_float (B : Nat) (hB : B < 18446744073709551616) (w : World) :
    Calls Tryz.prog 278 #[.float .f64 B] w fun e w' => e = .returned (.tuple #[.int .u32 ((if fexp B = 2047 then 1618033 else hashZ (sI (fneg B) (fwhole B)) : Nat) : Int), .nilIface]) ∧ Below w.heap.size w w' := by
  have HF := Lib.hid (fun W : World => isFinite_any B hB W)
  by_cases hf : fexp B = 2047
  · rw [if_pos hf]
    simp only [hf, ne_eq, not_true_eq_false, decide_false] at HF
    clear hf
    go_enter Tryz.func278, Tryz.ntmps278
    go_wp2_with fail
    refine (HF.out _).mono ?_
    rintro e w2 ⟨rfl, rfl⟩
    go_wp2
    go_ret2
    exact ⟨rfl, Below.refl _ _⟩
  · rw [if_neg hf]
    have HI := Lib.hid (fun W : World => f2i_any B hB hf W)
    simp only [hf, ne_eq, not_false_eq_true, decide_true] at HF
    have hsg : sI (fneg B && decide (0 < fwhole B)) (fwhole B) = sI (fneg B) (fwhole B) := by
      unfold sI
      by_cases h0 : fwhole B = 0
      · simp [h0]
      · simp [Nat.pos_of_ne_zero h0]
    rw [← hsg]
    generalize (fneg B && decide (0 < fwhole B)) = ng at HI ⊢
    clear hsg hf
    go_enter Tryz.func278, Tryz.ntmps278
    go_wp2_with fail
    refine (HF.out _).mono ?_
    rintro e w2 ⟨rfl, rfl⟩
    go_wp2_with fail
    refine (HI.out _).mono ?_
    rintro e w3 ⟨v, rfl, hI, hb3⟩
    have HB3 := Lib.hid hb3; have HI3 := Lib.hid hI; clear hb3 hI
    go_wp2_with fail
    refine (Hash_int _ _ _ _ _ HI3.out).mono ?_
    rintro e w4 ⟨rfl, hb4⟩
    have HB4 := Lib.hid hb4; clear hb4
    go_wp2
    go_ret2
    exact ⟨rfl, HB3.out.trans (HB4.out.mono HB3.out.size)⟩
end Go.Proofs.YtjkmppdmejgjiaaGreatDoor

/- Walks: the hash of any key. -/
set_option linter.unusedVariables false
set_option linter.unusedSimpArgs false
namespace Go.Proofs.YtjkmppdmejgjiaaGreatDoor
open Go.RowKit
open Num

theorem hash_of_none (v : Value) (w : World) : (method 416 99 v "Hash").run Tryz.prog w = .ok (255, v) w := by kernel_rfl
theorem hash_of_bool (v : Value) (w : World) : (method 416 100 v "Hash").run Tryz.prog w = .ok (261, v) w := by kernel_rfl
theorem hash_of_int (v : Value) (w : World) : (method 416 105 v "Hash").run Tryz.prog w = .ok (269, v) w := by kernel_rfl
theorem hash_of_flt (v : Value) (w : World) : (method 416 107 v "Hash").run Tryz.prog w = .ok (278, v) w := by kernel_rfl
theorem hash_of_str (v : Value) (w : World) : (method 416 109 v "Hash").run Tryz.prog w = .ok (290, v) w := by kernel_rfl
theorem hash_of_byt (v : Value) (w : World) : (method 416 110 v "Hash").run Tryz.prog w = .ok (301, v) w := by kernel_rfl
theorem hash_of_tup (v : Value) (w : World) : (method 416 78 v "Hash").run Tryz.prog w = .ok (221, v) w := by kernel_rfl

theorem enter_none (a : Array Value) (w : World) : (callFunc 255 a).run Tryz.prog w = .ok (.enter 255 a) w := by kernel_rfl
theorem enter_bool (a : Array Value) (w : World) : (callFunc 261 a).run Tryz.prog w = .ok (.enter 261 a) w := by kernel_rfl
theorem enter_int (a : Array Value) (w : World) : (callFunc 269 a).run Tryz.prog w = .ok (.enter 269 a) w := by kernel_rfl
theorem enter_flt (a : Array Value) (w : World) : (callFunc 278 a).run Tryz.prog w = .ok (.enter 278 a) w := by kernel_rfl
theorem enter_str (a : Array Value) (w : World) : (callFunc 290 a).run Tryz.prog w = .ok (.enter 290 a) w := by kernel_rfl
theorem enter_byt (a : Array Value) (w : World) : (callFunc 301 a).run Tryz.prog w = .ok (.enter 301 a) w := by kernel_rfl
theorem enter_tup (a : Array Value) (w : World) : (callFunc 221 a).run Tryz.prog w = .ok (.enter 221 a) w := by kernel_rfl
/-- a value's Hash, called through the interface, answers h -/
def HashIs (v : Value) (w : World) (h : Nat) : Prop :=
  ∃ t u f, v = .iface t u ∧ (∀ W : World, (method 416 t u "Hash").run Tryz.prog W = .ok (f, u) W) ∧ (∀ (a : Array Value) (W : World), (callFunc f a).run Tryz.prog W = .ok (.enter f a) W) ∧
    Calls Tryz.prog f #[u] w fun e w' => e = .returned (.tuple #[.int .u32 h, .nilIface]) ∧ Below w.heap.size w w'

theorem xor_lit (x y m : Nat) (hx : x < 4294967296) : bits .xor .u32 (x : Int) ((y : Int) * (m : Int) % 4294967296) = ((x ^^^ (y * m % 4294967296) : Nat) : Int) := by
  rw [← bits_xor_u32_nat x _ hx (Nat.mod_lt _ (by decide)), Int.natCast_emod, Int.natCast_mul]
  rfl

set_option maxRecDepth 100000 in
set_option maxHeartbeats 1000000 in
theorem Hash_tup (P : Value → Tr → Prop) (H : Tr → Nat) (s : Value) (l : List Tr) (w : World) (hl : l.length ≤ 16)
    (hH : ∀ x, H x < 4294967296)
    (hs : ElemsAt w P s l) (hP : ∀ u x W, x ∈ l → P u x → Below w.heap.size w W → HashIs u W (H x)) :
    Calls Tryz.prog 221 #[s] w fun e w' => e = .returned (.tuple #[.int .u32 (tupN ((82520 + 2 * l.length) % 4294967296) (fun i => (l.map H).getD i 0) l.length), .nilIface]) ∧ Below w.heap.size w w' := by
  rcases hs with ⟨rfl, a, c, rfl⟩ | ⟨h0, g, p, c, rfl, hc, hc2, hg, hk⟩
  · go_enter Tryz.func221, Tryz.ntmps221
    go_wp2
    refine wp_loop_rounds 1 ?_
    rw [rounds_succ]
    go_wp2
    go_ret2
    exact ⟨rfl, Below.refl _ _⟩
  · have HK := Lib.hid hk
    have HP := Lib.hid hP
    clear hk hP
    obtain ⟨G, hG⟩ : ∃ G, G = (82520 + 2 * l.length) % 4294967296 := ⟨_, rfl⟩
    obtain ⟨F, hF⟩ : ∃ F : Nat → Nat, F = (fun i => (l.map H).getD i 0) := ⟨_, rfl⟩
    rw [← hG, ← hF]
    obtain ⟨n, hn⟩ : ∃ n, n = l.length := ⟨_, rfl⟩
    have HF := Lib.hid hF; have HG := Lib.hid hG; have HN := Lib.hid hn
    clear hF hG
    rw [← hn] at hl h0 hc ⊢
    clear hn
    go_enter Tryz.func221, Tryz.ntmps221
    go_wp2
    go_loopw [4, 5, 12] (fun x m i wr => ∃ k : Nat, k ≤ n ∧ x = .int .u32 (tupN G F k) ∧ m = .int .u32 (tupM G k) ∧ i = .int .i64 k ∧ Below w.heap.size w wr) (fun _ _ i _ => n - (intOf i).toNat)
    case atStart => exact ⟨0, by omega, rfl, rfl, rfl, Below.refl _ _⟩
    case round =>
      obtain ⟨k, hk, rfl, rfl, rfl, hb⟩ := hrel
      have HB := Lib.hid hb; clear hb
      by_cases h1 : k = n
      · subst h1
        go_wp2
        go_ret2
        exact ⟨rfl, HB.out⟩
      · have hlt : (k : Int) < (n : Int) := by omega
        have hkl : k < l.length := by have := HN.out; omega
        obtain ⟨u, hu, hpu⟩ := HK.out k hkl
        have hcell := (HB.out.cell (p := ⟨g, p + k, none⟩) hg).trans hu
        have hFk : F k = H l[k] := by
          rw [HF.out]
          simp [hkl]
        obtain ⟨t, u', f, rfl, hm, hen, hcall⟩ := HP.out u _ _ (List.getElem_mem hkl) hpu HB.out
        rw [← hFk] at hcall
        have hFl : F k < 4294967296 := by rw [hFk]; exact hH _
        have HC := Lib.hid hcall
        clear hcall hu hpu hFk
        go_wp2_with fail
        refine HC.out.mono ?_
        rintro e w3 ⟨rfl, hb3⟩
        have HB3 := Lib.hid (HB.out.trans (hb3.mono HB.out.size)); clear hb3
        have HX := Lib.hid (xor_lit (tupN G F k) (F k) (tupM G k) (tupN_lt G F k))
        go_wp2
        go_round
        case rel => exact ⟨k + 1, by omega, by show _ = Value.int _ ((tupN G F k ^^^ (F k * tupM G k % 4294967296) : Nat) : Int); rw [← HX.out], (by
          show _ = Value.int _ (((tupM G k + G) % 4294967296 : Nat) : Int)
          have hg := HG.out
          rw [← HN.out] at hg
          generalize tupM G k = m
          congr 1
          omega), by go_num, HB3.out⟩
        case measure => simp [intOf]; omega

theorem hashT_tup (d : Nat) (l : List Tr) : hashT (d + 1) (.tup l) = tupN ((82520 + 2 * l.length) % 4294967296) (fun i => (l.map (hashT d)).getD i 0) l.length := rfl

/-- the tuples in a tree are short -/
def Slim : Nat → Tr → Prop
  | 0, _ => False
  | d + 1, x => x.kids.length ≤ 16 ∧ ∀ k ∈ x.kids, Slim d k

theorem Hash_any : ∀ (d : Nat) (v : Value) (T : Tr) (w : World), StarAt w d v T → KeyT d T → Slim d T → HashIs v w (hashT d T)
  | 0, _, _, _, h, _, _ => h.elim
  | d + 1, v, T, w, h, hk, hs => by
    cases T with
    | non => obtain rfl := h; exact ⟨_, _, _, rfl, hash_of_none _, enter_none, (Hash_none _ w).mono (by rintro e w' ⟨rfl, rfl⟩; exact ⟨rfl, Below.refl _ _⟩)⟩
    | bool b => obtain rfl := h; exact ⟨_, _, _, rfl, hash_of_bool _, enter_bool, (Hash_bool b w).mono (by rintro e w' ⟨rfl, rfl⟩; exact ⟨rfl, Below.refl _ _⟩)⟩
    | int n V =>
      obtain ⟨u, rfl, h1, h2, h3⟩ := h
      exact ⟨_, _, _, rfl, hash_of_int _, enter_int, Hash_int 0 u n V w h1⟩
    | flt B =>
      obtain ⟨rfl, hB⟩ := h
      exact ⟨_, _, _, rfl, hash_of_flt _, enter_flt, Hash_float B hB w⟩
    | str s =>
      obtain ⟨rfl, hB⟩ := h
      exact ⟨_, _, _, rfl, hash_of_str _, enter_str, (Hash_str s (by omega) w).mono (by rintro e w' ⟨rfl, rfl⟩; exact ⟨rfl, Below.refl _ _⟩)⟩
    | byt s =>
      obtain ⟨rfl, hB⟩ := h
      exact ⟨_, _, _, rfl, hash_of_byt _, enter_byt, (Hash_byt s (by omega) w).mono (by rintro e w' ⟨rfl, rfl⟩; exact ⟨rfl, Below.refl _ _⟩)⟩
    | tup l =>
      obtain ⟨s, rfl, h1⟩ := h
      refine ⟨_, _, _, rfl, hash_of_tup _, enter_tup, ?_⟩
      rw [hashT_tup]
      exact Hash_tup (StarAt w d) (hashT d) s l w hs.1 (hashT_lt d) h1 (fun u x W hx hu hb => Hash_any d u x W (StarAt.below hb d u x hu) (hk x hx) (hs.2 x hx))
    | lst l => exact hk.elim
    | dic l => exact hk.elim
    | set l => exact hk.elim
end Go.Proofs.YtjkmppdmejgjiaaGreatDoor

/- Walks: two keys compared for equality: tuples in tuples; Equal. -/
set_option linter.unusedVariables false
set_option linter.unusedSimpArgs false
namespace Go.Proofs.YtjkmppdmejgjiaaGreatDoor
open Go.RowKit
open Num

theorem CD_key : ∀ (d D : Nat) (x y : Value) (X Y : Tr) (w : World), StarAt w d x X → StarAt w d y Y → KeyT d X → KeyT d Y → Slim d X → Slim d Y → KT w → d ≤ D → D ≤ 1000000 →
    Calls Tryz.prog 39 #[.int .i8 37, x, y, .int .i64 D] w fun e w' => e = .returned (.tuple #[.bool (eqv d X Y), .nilIface]) ∧ Below w.heap.size w w'
  | 0, _, _, _, _, _, _, h, _, _, _, _, _, _, _, _ => h.elim
  | d + 1, D, x, y, X, Y, w, hx, hy, kx, ky, sx, sy, hk, hD, hD2 => by
    by_cases hp : X.kind ≤ 5 ∨ X.kind ≠ Y.kind
    · exact CompareDepth_flat d D (by omega) hD2 x y X Y w hx hy hk hp
    · have h5 : ¬ X.kind ≤ 5 := fun h => hp (.inl h)
      have hq : X.kind = Y.kind := Decidable.byContradiction fun h => hp (.inr h)
      clear hp
      cases X <;> first | (exact kx.elim) | (exfalso; simp [Tr.kind] at h5; done) | skip
      cases Y <;> first | (exact ky.elim) | (exfalso; simp [Tr.kind] at hq; done) | skip
      rename_i l m
      have hx' := hx; have hy' := hy
      obtain ⟨s, rfl, hs⟩ := hx
      obtain ⟨t, rfl, ht⟩ := hy
      have hl : l.length ≤ 16 := sx.1
      have hm : m.length ≤ 16 := sy.1
      exact CompareDepth_same d d D (by omega) _ _ _ _ _ _ _ w hx' hy' rfl (comp_tup _) (cst_tup.1 _) cst_tup.2 (fun W hb =>
        Cst_tup (StarAt W d) (StarAt W d) (eqv d) D (by omega) hD2 s t l m (by omega) (by omega) W (hs.below hb (fun u T h => h.below hb)) (ht.below hb (fun u T h => h.below hb))
          (fun u v a b W2 ha hb1 hu hv hb2 => by
            rw [show (D : Int) - 1 = ((D - 1 : Nat) : Int) by omega]
            exact EqualDepth_of u v _ (eqv d a b) W2 (CD_key d (D - 1) u v a b W2 (hu.below hb2) (hv.below hb2) (kx a ha) (ky b hb1) (sx.2 a ha) (sy.2 b hb1) ((hk.below hb).below hb2) (by omega) (by omega))))

theorem asS_none (v : Value) (w : World) : (Instr.typeAssert (.iface 99 v) 50 109 true).run Tryz.prog w = .ok (.tuple #[.string ⟨#[]⟩, .bool false]) w := by kernel_rfl
theorem strEq_none (s : ByteArray) (v : Value) (w : World) : (binOp .eql 50 (.iface 109 (.string s)) (.iface 99 v)).run Tryz.prog w = .ok (.bool false) w := by kernel_rfl
theorem asS_bool (v : Value) (w : World) : (Instr.typeAssert (.iface 100 v) 50 109 true).run Tryz.prog w = .ok (.tuple #[.string ⟨#[]⟩, .bool false]) w := by kernel_rfl
theorem strEq_bool (s : ByteArray) (v : Value) (w : World) : (binOp .eql 50 (.iface 109 (.string s)) (.iface 100 v)).run Tryz.prog w = .ok (.bool false) w := by kernel_rfl
theorem asS_int (v : Value) (w : World) : (Instr.typeAssert (.iface 105 v) 50 109 true).run Tryz.prog w = .ok (.tuple #[.string ⟨#[]⟩, .bool false]) w := by kernel_rfl
theorem strEq_int (s : ByteArray) (v : Value) (w : World) : (binOp .eql 50 (.iface 109 (.string s)) (.iface 105 v)).run Tryz.prog w = .ok (.bool false) w := by kernel_rfl
theorem asS_flt (v : Value) (w : World) : (Instr.typeAssert (.iface 107 v) 50 109 true).run Tryz.prog w = .ok (.tuple #[.string ⟨#[]⟩, .bool false]) w := by kernel_rfl
theorem strEq_flt (s : ByteArray) (v : Value) (w : World) : (binOp .eql 50 (.iface 109 (.string s)) (.iface 107 v)).run Tryz.prog w = .ok (.bool false) w := by kernel_rfl
theorem asS_byt (v : Value) (w : World) : (Instr.typeAssert (.iface 110 v) 50 109 true).run Tryz.prog w = .ok (.tuple #[.string ⟨#[]⟩, .bool false]) w := by kernel_rfl
theorem strEq_byt (s : ByteArray) (v : Value) (w : World) : (binOp .eql 50 (.iface 109 (.string s)) (.iface 110 v)).run Tryz.prog w = .ok (.bool false) w := by kernel_rfl
theorem asS_tup (v : Value) (w : World) : (Instr.typeAssert (.iface 78 v) 50 109 true).run Tryz.prog w = .ok (.tuple #[.string ⟨#[]⟩, .bool false]) w := by kernel_rfl
theorem strEq_tup (s : ByteArray) (v : Value) (w : World) : (binOp .eql 50 (.iface 109 (.string s)) (.iface 78 v)).run Tryz.prog w = .ok (.bool false) w := by kernel_rfl
theorem asS_lst (v : Value) (w : World) : (Instr.typeAssert (.iface 76 v) 50 109 true).run Tryz.prog w = .ok (.tuple #[.string ⟨#[]⟩, .bool false]) w := by kernel_rfl
theorem strEq_lst (s : ByteArray) (v : Value) (w : World) : (binOp .eql 50 (.iface 109 (.string s)) (.iface 76 v)).run Tryz.prog w = .ok (.bool false) w := by kernel_rfl
theorem asS_dic (v : Value) (w : World) : (Instr.typeAssert (.iface 79 v) 50 109 true).run Tryz.prog w = .ok (.tuple #[.string ⟨#[]⟩, .bool false]) w := by kernel_rfl
theorem strEq_dic (s : ByteArray) (v : Value) (w : World) : (binOp .eql 50 (.iface 109 (.string s)) (.iface 79 v)).run Tryz.prog w = .ok (.bool false) w := by kernel_rfl
theorem asS_set (v : Value) (w : World) : (Instr.typeAssert (.iface 82 v) 50 109 true).run Tryz.prog w = .ok (.tuple #[.string ⟨#[]⟩, .bool false]) w := by kernel_rfl
theorem strEq_set (s : ByteArray) (v : Value) (w : World) : (binOp .eql 50 (.iface 109 (.string s)) (.iface 82 v)).run Tryz.prog w = .ok (.bool false) w := by kernel_rfl
theorem asS_str (v : Value) (w : World) : (Instr.typeAssert (.iface 109 v) 50 109 true).run Tryz.prog w = .ok (.tuple #[v, .bool true]) w := by kernel_rfl
theorem strEq_str (s t : ByteArray) (w : World) : (binOp .eql 50 (.iface 109 (.string s)) (.iface 109 (.string t))).run Tryz.prog w = .ok (.bool (s == t)) w := by kernel_rfl
theorem bytes_beq (s t : ByteArray) : (s == t) = decide (s = t) := by
  rw [beq_toListBytes, Bool.eq_iff_iff, beq_iff_eq, decide_eq_true_iff, ByteArray.toList_eq, ByteArray.toList_eq]
  constructor
  · intro h
    have := Array.toList_inj.1 h
    cases s; cases t; simp_all
  · intro h; rw [h]
/-- what is known of a value's type: it is no String -/
def NoStr (v : Value) : Prop := ∃ t u, v = .iface t u ∧
  (∀ W : World, (Instr.typeAssert (.iface t u) 50 109 true).run Tryz.prog W = .ok (.tuple #[.string ⟨#[]⟩, .bool false]) W) ∧
  (∀ (s : ByteArray) (W : World), (binOp .eql 50 (.iface 109 (.string s)) (.iface t u)).run Tryz.prog W = .ok (.bool false) W)
theorem StarAt.noStr {w : World} {d : Nat} {v : Value} {T : Tr} (h : StarAt w (d + 1) v T) (h2 : T.kind ≠ 4) : NoStr v := by
  cases T with
  | non => obtain rfl := h; exact ⟨_, _, rfl, asS_none _, fun s => strEq_none s _⟩
  | bool b => obtain rfl := h; exact ⟨_, _, rfl, asS_bool _, fun s => strEq_bool s _⟩
  | int n V => obtain ⟨u, rfl, _⟩ := h; exact ⟨_, _, rfl, asS_int _, fun s => strEq_int s _⟩
  | flt B => obtain ⟨rfl, _⟩ := h; exact ⟨_, _, rfl, asS_flt _, fun s => strEq_flt s _⟩
  | str s => exact absurd rfl h2
  | byt s => obtain ⟨rfl, _⟩ := h; exact ⟨_, _, rfl, asS_byt _, fun s => strEq_byt s _⟩
  | tup l => obtain ⟨s, rfl, _⟩ := h; exact ⟨_, _, rfl, asS_tup _, fun s => strEq_tup s _⟩
  | lst l => obtain ⟨b, s, rfl, _⟩ := h; exact ⟨_, _, rfl, asS_lst _, fun s => strEq_lst s _⟩
  | dic l => obtain ⟨b, rfl, _⟩ := h; exact ⟨_, _, rfl, asS_dic _, fun s => strEq_dic s _⟩
  | set l => obtain ⟨b, rfl, _⟩ := h; exact ⟨_, _, rfl, asS_set _, fun s => strEq_set s _⟩
theorem kind_str {X : Tr} (h : X.kind = 4) : ∃ s, X = .str s := by
  cases X <;> first | exact ⟨_, rfl⟩ | (simp [Tr.kind] at h)

/-- Equal, by EqualDepth's answer at the limit -/
theorem Equal_of (d e : Nat) (x y : Value) (X Y : Tr) (w : World) (hx : StarAt w (d + 1) x X) (hy : StarAt w (e + 1) y Y) (hc : CL w)
    (hE : Calls Tryz.prog 21 #[x, y, .int .i64 10] w fun e w' => e = .returned (.tuple #[.bool (eqv (d + 1) X Y), .nilIface]) ∧ Below w.heap.size w w') :
    Calls Tryz.prog 93 #[x, y] w fun e w' => e = .returned (.tuple #[.bool (eqv (d + 1) X Y), .nilIface]) ∧ Below w.heap.size w w' := by
  have hc' : w.cell? ⟨1, 0, none⟩ = some (.int .i64 10) := hc
  have H := Lib.hid hE
  clear hc hE
  by_cases h4 : X.kind = 4
  · obtain ⟨s, rfl⟩ := kind_str h4
    obtain ⟨rfl, _⟩ := hx
    have a1 := asS_str (.string s)
    by_cases k4 : Y.kind = 4
    · obtain ⟨t, rfl⟩ := kind_str k4
      obtain ⟨rfl, _⟩ := hy
      have a2 := strEq_str s t
      have hR : eqv (d + 1) (.str s) (.str t) = (s == t) := (bytes_beq s t).symm
      rw [hR]
      clear hR H h4 k4
      go_enter Tryz.func93, Tryz.ntmps93
      go_wp2
      go_ret2
      exact ⟨rfl, Below.refl _ _⟩
    · obtain ⟨t, u, rfl, _, h2⟩ := hy.noStr k4
      have a2 := h2 s
      have hR : eqv (d + 1) (.str s) Y = false := by cases Y <;> first | rfl | (exact absurd rfl k4)
      rw [hR]
      clear hR H h4 k4 hy h2
      go_enter Tryz.func93, Tryz.ntmps93
      go_wp2
      go_ret2
      exact ⟨rfl, Below.refl _ _⟩
  · obtain ⟨t, u, rfl, a1, _⟩ := hx.noStr h4
    clear hx hy h4
    go_enter Tryz.func93, Tryz.ntmps93
    go_wp2_with fail
    refine H.out.mono ?_
    rintro e w2 ⟨rfl, hb⟩
    have HB := Lib.hid hb; clear hb
    go_wp2
    go_ret2
    exact ⟨rfl, HB.out⟩

theorem Equal_key (d : Nat) (x y : Value) (X Y : Tr) (w : World) (hd : d ≤ 10) (hx : StarAt w d x X) (hy : StarAt w d y Y) (kx : KeyT d X) (ky : KeyT d Y) (sx : Slim d X) (sy : Slim d Y) (hk : KT w) (hc : CL w) :
    Calls Tryz.prog 93 #[x, y] w fun e w' => e = .returned (.tuple #[.bool (eqv d X Y), .nilIface]) ∧ Below w.heap.size w w' := by
  cases d with
  | zero => exact hx.elim
  | succ d => exact Equal_of d d x y X Y w hx hy hc (EqualDepth_of x y 10 _ w (CD_key (d + 1) 10 x y X Y w hx hy kx ky sx sy hk hd (by omega)))
end Go.Proofs.YtjkmppdmejgjiaaGreatDoor

/- Walks: a hash table is begun; its load. -/
set_option linter.unusedVariables false
set_option linter.unusedSimpArgs false
namespace Go.Proofs.YtjkmppdmejgjiaaGreatDoor
open Go.RowKit
open Num

theorem overloaded_small (n k : Int) (hn : n < 8) (w : World) : Calls Tryz.prog 94 #[.int .i64 n, .int .i64 k] w fun e w' => e = .returned (.bool false) ∧ w' = w := by
  have h2 : decide (8 ≤ n) = false := by simp; omega
  go_enter Tryz.func94, Tryz.ntmps94
  go_wp2
  go_ret
  exact ⟨rfl, rfl⟩
section
variable {w : World} {t b n : Nat} {laid : Bool} {H : Nat → Nat} {K V : Nat → Value}
theorem ht_cell {f : Nat → Value} (h : Row w b t 47 f) (j : Nat) (hj : j < 47) : w.cell? ⟨b, j, none⟩ = some (f j) := h.cell hj
end
theorem checkMutable_any (t b : Nat) (s : ByteArray) (w : World) (h43 : w.cell? ⟨b, 43, none⟩ = some (.int .u32 0)) (h46 : w.cell? ⟨b, 46, none⟩ = some (.bool false)) :
    Calls Tryz.prog 91 #[.pointer (some ⟨b, 0, none⟩), .string s] w fun e w' => e = .returned .nilIface ∧ w' = w := by
  go_enter Tryz.func91, Tryz.ntmps91
  go_wp2
  go_ret
  exact ⟨rfl, rfl⟩
set_option maxRecDepth 100000 in
theorem init_any (t b : Nat) (f : Nat → Value) (w : World) (hr : Row w b t 47 f) :
    Calls Tryz.prog 92 #[.pointer (some ⟨b, 0, none⟩), .int .i64 1] w fun e w' => e = .returned (.tuple #[]) ∧ Row w' b t 47 (fun j => if j = 45 then .pointer (some ⟨b, 44, none⟩) else if j = 0 then .slice (some ⟨b, 1, none⟩) 1 1 else f j) ∧ Chg b w w' := by
  have c0 := hr.cell (i := 0) (by omega)
  have c45 := hr.cell (i := 45) (by omega)
  have z0 := hr.frozen 0
  have z45 := hr.frozen 45
  have HO := Lib.hid (fun W : World => overloaded_small 1 1 (by omega) W)
  have HR := Lib.hid hr
  clear hr
  go_enter Tryz.func92, Tryz.ntmps92
  go_wp2
  refine wp_loop_rounds 1 ?_
  rw [rounds_succ]
  go_wp2_with fail
  refine (HO.out _).mono ?_
  rintro e w2 ⟨rfl, rfl⟩
  go_wp2
  go_end0
  exact ⟨rfl, (HR.out.set 0 _).set 45 _, ((Chg.refl _ _).set _ _).set _ _⟩
end Go.Proofs.YtjkmppdmejgjiaaGreatDoor
