/- Walks: Rat.norm of a fraction in its lowest terms, one part of which is a word. -/
import Derived.Test.YtgohhebffcldeaaGreatDoorGcdW
import Derived.Defers
set_option linter.unusedVariables false
set_option linter.unusedSimpArgs false
namespace Go.Proofs.YtgohhebffcldeaaGreatDoor
open Go.RowKit
open Num

set_option maxRecDepth 100000 in
set_option maxHeartbeats 400000 in
theorem norm_word (rb gx cx gy cy n m V U : Nat) (an bn : Bool) (w : World) (h0 : 0 < n) (hm0 : 0 < m) (hn : n ≤ 1048576) (hm : m ≤ 1048576) (hone : n = 1 ∨ m = 1) (hNV : Nw n V) (hNU : Nw m U) (hgcd : Nat.gcd V U = 1) (hgx : gx < w.heap.size) (hgy : gy < w.heap.size) (hxr : gx ≠ rb) (hyr : gy ≠ rb)
    (hz : w.heap[rb]? = some (.cells #[.bool an, .slice (some ⟨gx, 0, none⟩) n cx, .bool bn, .slice (some ⟨gy, 0, none⟩) m cy] 219 (0, 0)))
    (hc : ∀ i, i < n → w.cell? ⟨gx, 0 + i, none⟩ = some (.int .u64 (wd V i))) (hcy : ∀ i, i < m → w.cell? ⟨gy, 0 + i, none⟩ = some (.int .u64 (wd U i))) :
    Calls Tryz.prog 180 #[.pointer (some ⟨rb, 0, none⟩)] w fun e w' => e = .returned (.pointer (some ⟨rb, 0, none⟩)) ∧ w'.heap[rb]? = some (.cells #[.bool an, .slice (some ⟨gx, 0, none⟩) n cx, .bool false, .slice (some ⟨gy, 0, none⟩) m cy] 219 (0, 0)) ∧ Chg rb w w' := by
  have lr := (Array.getElem?_eq_some_iff.1 hz).1
  have z0 := (cell_of_row w _ 0 _ _ (0, 0) hz).trans rfl
  have z1 := (cell_of_row w _ 1 _ _ (0, 0) hz).trans rfl
  have z2 := (cell_of_row w _ 2 _ _ (0, 0) hz).trans rfl
  have z3 := (cell_of_row w _ 3 _ _ (0, 0) hz).trans rfl
  have f0 : ∀ i, w.frozen? ⟨rb, i, none⟩ = false := fun i => by simp [World.frozen?, hz]
  have HZ := Lib.hid hz; have HC := Lib.hid hc; have HCY := Lib.hid hcy
  clear hz hc hcy
  go_enter_defers Tryz.func180, Tryz.ntmps180
  go_wp2_with fail
  refine (getStack_any _).mono ?_
  rintro e w1 ⟨rfl, rfl⟩
  obtain ⟨w1, hw1⟩ : ∃ w1, w1 = w.alloc (.cells #[.pointer none] 249) := ⟨_, rfl⟩
  rw [← hw1]
  have hb1 : Below w.heap.size w w1 := by rw [hw1]; exact (Below.refl _ _).alloc (Nat.le_refl _) _
  have hs1 : w1.heap.size = w.heap.size + 1 := by rw [hw1]; simp
  have hz1 := (hb1.block _ lr).trans HZ.out
  have hst1 : w1.heap[w.heap.size]? = some (.cells #[.pointer none] 249 (0, 0)) := by rw [hw1]; exact heap_alloc_new _ _
  have y0 := (cell_of_row w1 _ 0 _ _ (0, 0) hz1).trans rfl
  have y2 := (cell_of_row w1 _ 2 _ _ (0, 0) hz1).trans rfl
  have g1 : ∀ i, w1.frozen? ⟨rb, i, none⟩ = false := fun i => by simp [World.frozen?, hz1]
  have HB1 := Lib.hid hb1; have HS1 := Lib.hid hs1; have HZ1 := Lib.hid hz1; have HST1 := Lib.hid hst1
  clear hw1 hb1 hs1 hz1 hst1
  go_wp2_with fail
  obtain ⟨w2, hw2⟩ : ∃ w2, w2 = (w1.setCell ⟨rb, 0, none⟩ (.bool false)).setCell ⟨rb, 2, none⟩ (.bool false) := ⟨_, rfl⟩
  rw [← hw2]
  have hz2 : w2.heap[rb]? = some (.cells #[.bool false, .slice (some ⟨gx, 0, none⟩) n cx, .bool false, .slice (some ⟨gy, 0, none⟩) m cy] 219 (0, 0)) := by
    rw [hw2]; exact set1 (i := 2) (x := .bool false) (set1 (i := 0) (x := .bool false) HZ1.out)
  have hs2 : w2.heap.size = w.heap.size + 1 := by rw [hw2]; simpa [World.setCell] using HS1.out
  have hch2 : Chg rb w w2 := by rw [hw2]; exact ((Chg.of_below HB1.out).set _ _).set _ _
  have hst2 : w2.heap[w.heap.size]? = some (.cells #[.pointer none] 249 (0, 0)) := by
    rw [hw2, Below.heap_setCell _ _ _ _ (by show w.heap.size ≠ rb; omega), Below.heap_setCell _ _ _ _ (by show w.heap.size ≠ rb; omega)]; exact HST1.out
  have hz3 : (w2.drew.alloc (.cells #[.bool false, .slice none 0 0] 142)).heap[w2.heap.size]? = some (.cells #[.bool false, .slice none 0 0] 142 (0, 0)) := heap_alloc_new w2.drew _
  have hb3 : Below w2.heap.size w2 (w2.drew.alloc (.cells #[.bool false, .slice none 0 0] 142)) := (below_undrewN (n := 0) ((Below.refl _ _).drew)).alloc (Nat.le_refl _) _
  have hr3 := (hb3.block rb (by omega)).trans hz2
  have HL := Lib.hid (lehmer_word w2.heap.size rb 0 rb 2 gx 0 cx gy 0 cy n m V U 219 219 _ _ false false (w2.drew.alloc (.cells #[.bool false, .slice none 0 0] 142)) h0 hm0 hn hm hone hNV hNU hgcd (by have := hb3.size; omega) (by have := hb3.size; omega) hz3 hr3 rfl rfl hr3 rfl rfl
    (fun i hi => by rw [hb3.cell (p := ⟨gx, 0 + i, none⟩) (by show gx < _; omega), hch2.cell (p := ⟨gx, 0 + i, none⟩) hgx hxr]; exact HC.out i hi) (fun i hi => by rw [hb3.cell (p := ⟨gy, 0 + i, none⟩) (by show gy < _; omega), hch2.cell (p := ⟨gy, 0 + i, none⟩) hgy hyr]; exact HCY.out i hi))
  have HN := Lib.hid (NewInt_zero w2.drew)
  have HS2 := Lib.hid hs2; have HCH2 := Lib.hid hch2; have HST2 := Lib.hid hst2; have HZ2 := Lib.hid hz2; have HB3 := Lib.hid hb3
  clear hw2 hz2 hs2 hch2 hst2 hz3 hb3 hr3 y0 y2 g1 z0 z1 z2 z3 f0 hNV hNU hgcd
  refine wp_region_noPanic ?_
  go_region_law (first | (go_simp; go_at_call 159; refine HN.out.mono ?_; rintro e w3 ⟨rfl, rfl⟩) | (go_simp; go_at_call 202; refine HL.out.mono ?_; rintro e w4 ⟨rfl, g4, c4, h4, k4, ch4⟩; have H4 := Lib.hid h4; have K4 := Lib.hid k4; have CH4 := Lib.hid ch4; clear h4 k4 ch4))
  all_goals refine NoPanic.normal ?_
  all_goals go_wp2_with fail
  all_goals (
    refine (intOne_any _).mono ?_
    rintro e w5 ⟨rfl, hw5⟩
    have hs2 := HS2.out
    have hsz4 : w2.heap.size + 1 ≤ w4.heap.size := by have := CH4.out.size; simpa using this
    have hb45 : Below w4.heap.size w4 w5 := by rw [hw5]; exact ((Below.refl _ _).alloc (Nat.le_refl _) _).alloc (by simp) _
    have hI5 : w5.heap[w4.heap.size + 1]? = some (.cells #[.bool false, .slice (some ⟨w4.heap.size, 0, none⟩) 1 1] 142 (0, 0)) := by rw [hw5]; exact heap2_1 _ _ _
    have hk5 : w5.cell? ⟨w4.heap.size, 0, none⟩ = some (.int .u64 1) := by rw [hw5]; exact (cell_of_row _ _ 0 _ _ (0, 0) (heap2_0 _ _ _)).trans rfl
    have h45 := (hb45.block _ (Array.getElem?_eq_some_iff.1 H4.out).1).trans H4.out
    have hg4 : g4 < w4.heap.size := by
      have := K4.out
      rcases Nat.lt_or_ge g4 w4.heap.size with h | h
      · exact h
      · simp [World.cell?, Array.getElem?_eq_none h] at this
    have hk45 : w5.cell? ⟨g4, 0, none⟩ = some (.int .u64 1) := (hb45.cell (p := ⟨g4, 0, none⟩) hg4).trans K4.out
    have hr4 : w4.heap[rb]? = some (.cells #[.bool false, .slice (some ⟨gx, 0, none⟩) n cx, .bool false, .slice (some ⟨gy, 0, none⟩) m cy] 219 (0, 0)) := by
      rw [CH4.out.block rb (by have := HB3.out.size; omega) (by omega), HB3.out.block rb (by omega)]; exact HZ2.out
    have hr5 := (hb45.block rb (by omega)).trans hr4
    have hst5 : w5.heap[w.heap.size]? = some (.cells #[.pointer none] 249 (0, 0)) := by
      rw [hb45.block _ (by omega), CH4.out.block _ (by have := HB3.out.size; omega) (by omega), HB3.out.block _ (by omega)]; exact HST2.out
    have hch5 : Chg rb w w5 := by
      have c1 : Chg rb w (w2.drew.alloc (.cells #[.bool false, .slice none 0 0] 142)) := HCH2.out.drew.alloc _
      have c2 : Chg rb w w4 := ⟨CH4.out.os.trans c1.os, CH4.out.tape.trans c1.tape, CH4.out.output.trans c1.output, Nat.le_trans c1.size CH4.out.size, fun i hi hg => (CH4.out.block i (by have := c1.size; omega) (by omega)).trans (c1.block i hi hg)⟩
      exact ⟨hb45.os.trans c2.os, hb45.tape.trans c2.tape, hb45.output.trans c2.output, Nat.le_trans c2.size hb45.size, fun i hi hg => (hb45.block i (by have := c2.size; omega)).trans (c2.block i hi hg)⟩
    have HCM := Lib.hid (Cmp_same1 w2.heap.size (w4.heap.size + 1) g4 w4.heap.size c4 1 1 142 142 w5 (by decide) h45 hI5 (by omega) hk45 hk5)
    have HR5 := Lib.hid hr5; have HST5 := Lib.hid hst5; have HCH5 := Lib.hid hch5
    clear hw5 hb45 hI5 hk5 h45 hg4 hk45 hr4 hr5 hst5 hch5 hs2 hsz4
    go_wp2_with fail
    refine HCM.out.mono ?_
    rintro e w6 ⟨rfl, kk, hw6⟩
    have hr6 : w6.heap[rb]? = some (.cells #[.bool false, .slice (some ⟨gx, 0, none⟩) n cx, .bool false, .slice (some ⟨gy, 0, none⟩) m cy] 219 (0, 0)) := by rw [hw6]; exact HR5.out
    have hst6 : w6.heap[w.heap.size]? = some (.cells #[.pointer none] 249 (0, 0)) := by rw [hw6]; exact HST5.out
    have hch6 : Chg rb w w6 := by rw [hw6]; exact HCH5.out.drewN kk
    have y0 := (cell_of_row w6 _ 0 _ _ (0, 0) hr6).trans rfl
    have g1 : ∀ i, w6.frozen? ⟨rb, i, none⟩ = false := fun i => by simp [World.frozen?, hr6]
    have HR6 := Lib.hid hr6; have HST6 := Lib.hid hst6; have HCH6 := Lib.hid hch6
    clear hw6 hr6 hst6 hch6
    go_wp2
    refine leaves_cons (f := 149) (args := #[.pointer (some ⟨w.heap.size, 0, none⟩)]) (by simp) (by simp [go_sem]) ?_
    refine (free_deferred ⟨w.heap.size, 0, none⟩ .returning _ ?_).mono ?_
    · exact (cell_of_row _ _ 0 _ _ (0, 0) ((Below.heap_setCell w6 (⟨rb, 0, none⟩ : Addr) _ w.heap.size (by show w.heap.size ≠ rb; omega)).trans HST6.out)).trans rfl
    rintro e u' w'' ⟨rfl, rfl, rfl⟩
    exact ⟨_, results_tmp rfl _ _ _, rfl, set1 (i := 0) (x := .bool an) HR6.out, HCH6.out.set _ _⟩)

end Go.Proofs.YtgohhebffcldeaaGreatDoor
