/- Walks: Float.rational, Num, Denom, Int.Div by 1; finiteFloatToInt of big floats. -/
import Derived.Test.YtalpkahhfjkeiaaGreatDoorSetF
set_option linter.unusedVariables false
set_option linter.unusedSimpArgs false
namespace Go.Proofs.YtalpkahhfjkeiaaGreatDoor
open Go.RowKit
open Num

/-- a Rat that is a whole number -/
structure RatIs (w : World) (rb : Nat) (neg : Bool) (V : Nat) (gx cx gy cy n : Nat) : Prop where
  heap : w.heap[rb]? = some (.cells #[.bool neg, .slice (some ⟨gx, 0, none⟩) n cx, .bool false, .slice (some ⟨gy, 0, none⟩) 1 cy] 136 (0, 0))
  nw : Nw n V
  pos : 0 < n
  le : n ≤ 1024
  rowx : ∃ f, n ≤ cx ∧ Row w gx 142 cx f ∧ ∀ i, i < n → f i = .int .u64 (wd V i)
  rowy : ∃ f, 1 ≤ cy ∧ Row w gy 142 cy f ∧ f 0 = .int .u64 1

theorem RatIs.below {w w' : World} {rb : Nat} {neg : Bool} {V gx cx gy cy n : Nat} (h : RatIs w rb neg V gx cx gy cy n) (hb : Below w.heap.size w w') : RatIs w' rb neg V gx cx gy cy n := by
  obtain ⟨f, h1, h2, h3⟩ := h.rowx
  obtain ⟨f2, k1, k2, k3⟩ := h.rowy
  exact ⟨(hb.block _ (Array.getElem?_eq_some_iff.1 h.heap).1).trans h.heap, h.nw, h.pos, h.le, ⟨f, h1, h2.below hb h2.lt, h3⟩, ⟨f2, k1, k2.below hb k2.lt, k3⟩⟩

set_option maxRecDepth 100000 in
theorem rational_big (B k : Nat) (hB : B < 18446744073709551616) (hf : fexp B ≠ 2047) (hk : fplace B = (k : Int)) (hk11 : 11 ≤ k) (w : World) :
    Calls Tryz.prog 45 #[.float .f64 B] w fun e w' => e = .returned (.pointer (some ⟨w.heap.size, 0, none⟩)) ∧ (∃ gx cx gy cy n, RatIs w' w.heap.size (fneg B) (fman B * 2 ^ k) gx cx gy cy n) ∧ Below w.heap.size w w' := by
  have hz : (w.alloc (.cells #[.bool false, .slice none 0 0, .bool false, .slice none 0 0] 136)).heap[w.heap.size]? = some (.cells #[.bool false, .slice none 0 0, .bool false, .slice none 0 0] 136 (0, 0)) := heap_alloc_new _ _
  have HS := Lib.hid (SetFloat64_big w.heap.size B k hB hf hk hk11 _ hz)
  have hb0 : Below w.heap.size w (w.alloc (.cells #[.bool false, .slice none 0 0, .bool false, .slice none 0 0] 136)) := (Below.refl _ _).alloc (Nat.le_refl _) _
  have HB0 := Lib.hid hb0
  clear hz hk hf hb0
  go_enter Tryz.func45, Tryz.ntmps45
  go_wp2_with fail
  refine HS.out.mono ?_
  rintro e w2 ⟨rfl, gx, cx, gy, cy, n, f, f2, h1, h2, h3, h4, h5, h6, h7, h8, h9, h10, h11, h12, h13⟩
  have H := Lib.hid (show RatIs w2 w.heap.size (fneg B) (fman B * 2 ^ k) gx cx gy cy n from ⟨h1, h2, h3, h4, ⟨f, h5, h9, h10⟩, ⟨f2, h6, h11, h12⟩⟩)
  have HC := Lib.hid h13
  clear h1 h2 h3 h4 h5 h6 h7 h8 h9 h10 h11 h12 h13
  go_wp2
  go_ret
  exact ⟨rfl, ⟨gx, cx, gy, cy, n, H.out⟩, Chg.below HB0.out HB0.out.size HC.out (Nat.le_refl _)⟩

theorem Num_any (rb : Nat) (w : World) :
    Calls Tryz.prog 48 #[.pointer (some ⟨rb, 0, none⟩)] w fun e w' => e = .returned (.pointer (some ⟨rb, 0, none⟩)) ∧ w' = w := by
  go_enter Tryz.func48, Tryz.ntmps48
  go_wp2
  go_ret
  exact ⟨rfl, rfl⟩
theorem Denom_any (rb : Nat) (a : Option Addr) (c : Nat) (w : World) (h : w.cell? ⟨rb, 3, none⟩ = some (.slice a 1 c)) :
    Calls Tryz.prog 49 #[.pointer (some ⟨rb, 0, none⟩)] w fun e w' => e = .returned (.pointer (some ⟨rb, 2, none⟩)) ∧ w' = w := by
  go_enter Tryz.func49, Tryz.ntmps49
  go_wp2
  go_ret
  exact ⟨rfl, rfl⟩

theorem Div_one (zb rb : Nat) (neg : Bool) (V gx cx gy cy n : Nat) (w : World) (h : RatIs w rb neg V gx cx gy cy n) (hz : w.heap[zb]? = some (.cells #[.bool false, .slice none 0 0] 125 (0, 0))) (hne : zb ≠ rb) :
    Calls Tryz.prog 47 #[.pointer (some ⟨zb, 0, none⟩), .pointer (some ⟨rb, 0, none⟩), .pointer (some ⟨rb, 2, none⟩)] w fun e w' => e = .returned (.pointer (some ⟨zb, 0, none⟩)) ∧ IntObj w' zb 0 neg n V ∧ Chg zb w w' := by
  have lz := (Array.getElem?_eq_some_iff.1 hz).1
  have lr := (Array.getElem?_eq_some_iff.1 h.heap).1
  obtain ⟨w1, hw1⟩ : ∃ w1, w1 = w.alloc (.cells #[.bool false, .slice none 0 0] 125) := ⟨_, rfl⟩
  have hb1 : Below w.heap.size w w1 := by rw [hw1]; exact (Below.refl _ _).alloc (Nat.le_refl _) _
  have hs1 : w1.heap.size = w.heap.size + 1 := by rw [hw1]; simp
  have hq1 : w1.heap[w.heap.size]? = some (.cells #[.bool false, .slice none 0 0] 125 (0, 0)) := by rw [hw1]; exact heap_alloc_new _ _
  have h1 := h.below hb1
  obtain ⟨f, x1, x2, x3⟩ := h1.rowx
  obtain ⟨f2, y1, y2, y3⟩ := h1.rowy
  have z2 : w.cell? ⟨rb, 2, none⟩ = some (.bool false) := (cell_of_row w _ 2 _ _ (0, 0) h.heap).trans rfl
  have HQ := Lib.hid (QuoRem_one zb w.heap.size rb 0 rb 2 gx 0 cx gy 0 cy n V false false neg false _ _ _ _ _ _ w1 h1.pos (by have := h1.le; omega) h1.nw.1 x2.lt y2.lt ((hb1.block _ lz).trans hz) hq1 h1.heap rfl rfl h1.heap rfl rfl (fun i hi => by rw [Nat.zero_add, x2.cell (by omega), x3 i hi]) (by rw [y2.cell (by omega), y3]) (by omega) hne hne (by omega) (by omega))
  have HW := Lib.hid hw1; have HB1 := Lib.hid hb1; have HS1 := Lib.hid hs1; have HH := Lib.hid h
  clear hw1 hb1 hs1 hq1 h1 x1 x2 x3 y1 y2 y3 hz h
  go_enter Tryz.func47, Tryz.ntmps47
  go_wp2_with fail
  rw [← HW.out]
  refine HQ.out.mono ?_
  rintro e w2 ⟨rfl, c, f', q1, q2, q3, q4, q5, q6, q7, q8, q9, q10, q11⟩
  have r0 : w2.cell? ⟨w.heap.size, 0, none⟩ = some (.bool false) := (cell_of_row w2 _ 0 _ _ (0, 0) q2).trans rfl
  have hs := HS1.out
  have hI : IntObj w2 zb 0 neg n V := by
    refine ⟨_, _, _, q1, ?_, rfl, HH.out.nw, by have := HH.out.le; omega, .inr ⟨HH.out.pos, w1.heap.size, 0, c, rfl, q5.lt, fun i hi => ?_⟩⟩
    · cases neg <;> rfl
    · rw [Nat.zero_add, q5.cell (by omega), q6 i hi]
  have hC : Chg zb w w2 := ⟨q9.trans HB1.out.os, q10.trans HB1.out.tape, q11.trans HB1.out.output, by omega, fun k hk hg => (q7 k (by omega) hg (by omega)).trans (HB1.out.block k hk)⟩
  have HI := Lib.hid hI; have HC := Lib.hid hC
  clear q1 q2 q3 q4 q5 q6 q7 q8 q9 q10 q11 hI hC hs
  go_wp2
  go_ret
  exact ⟨rfl, HI.out, HC.out⟩

end Go.Proofs.YtalpkahhfjkeiaaGreatDoor
