/- Walks: spec.sum and less, as far as memory goes (of some magnitude). Walks: spec.Int.Add, Minus, Sub, as far as memory goes (of some magnitude). Walks: spec.Int.Minus, Sub; bit, Length, low, as far as memory goes. Walks: spec.Int.Minus, Sub, as far as memory goes. Walk: spec.split, as far as memory goes. -/
import Derived.Test.YtgohhebffcldeaaGreatDoorMul
import Derived.Test.YtgohhebffcldeaaGreatDoorSpec2
import Derived.Test.YtgohhebffcldeaaGreatDoorOrdC
set_option linter.unusedVariables false
set_option linter.unusedSimpArgs false
namespace Go.Proofs.YtgohhebffcldeaaGreatDoor
open Go.RowKit
open Num

/-- a row of bytes stands for some number -/
theorem byt_of_row {w : World} {g n : Nat} {D : Nat → Nat} (h : Row w g 5 n (fun j => .int .u8 (D j))) (hD : ∀ j, j < n → D j < 256) : ∃ V, BytAt w (.slice (some ⟨g, 0, none⟩) n n) n V := by
  have hlt : ∀ y ∈ (List.range n).map D, y < 256 := fun y hy => by
    obtain ⟨j, hj, rfl⟩ := List.mem_map.1 hy
    exact hD j (List.mem_range.1 hj)
  have hll : ((List.range n).map D).length = n := by simp
  refine ⟨be ((List.range n).map D), ?_, ?_⟩
  · have := be_lt _ hlt
    rwa [hll] at this
  · by_cases h0 : n = 0
    · exact .inl ⟨h0, _, _, by rw [h0]⟩
    · refine .inr ⟨by omega, g, 0, n, rfl, Nat.le_refl _, h.lt, fun i hi => ?_⟩
      have hd := be_dg _ hlt i (by omega)
      rw [hll] at hd
      rw [hd, Nat.zero_add, h.cell hi]
      simp [List.getD, hi]

theorem digit_byt (s : Value) (n V i : Nat) (w : World) (hn : n ≤ 1099511627776) (h : BytAt w s n V) :
    Calls Tryz.prog 90 #[s, .int .i64 i] w fun e w' => ∃ d : Nat, d < 256 ∧ e = .returned (.int .i64 d) ∧ ∃ k, w' = w.drewN k := by
  rcases h.2 with ⟨rfl, a, c, rfl⟩ | ⟨h0, g, p, c, rfl, hnc, hg, hc⟩
  · refine (digit_out a c 0 i w (by omega)).mono ?_
    rintro e w' ⟨rfl, rfl⟩
    exact ⟨0, by decide, rfl, 0, rfl⟩
  · refine (digit_any g p c n V i w (by omega) h.1 hc).mono ?_
    rintro e w' ⟨rfl, hk⟩
    exact ⟨_, dg_lt V i, rfl, hk⟩

theorem BytAt.sl {w : World} {s : Value} {n V : Nat} (h : BytAt w s n V) : ∃ a c, s = .slice a n c := by
  rcases h.2 with ⟨rfl, a, c, rfl⟩ | ⟨_, g, p, c, rfl, _⟩
  · exact ⟨a, c, rfl⟩
  · exact ⟨_, c, rfl⟩

set_option maxRecDepth 100000 in
theorem sum_any (s t : Value) (n m V U : Nat) (w : World) (hs : BytAt w s n V) (ht : BytAt w t m U) (hn : n ≤ 1073741824) (hm : m ≤ 1073741824) :
    Calls Tryz.prog 91 #[s, t] w fun e w' => ∃ s' l W, e = .returned s' ∧ l ≤ max n m + 1 ∧ NewMag w w' s' l W := by
  obtain ⟨N, hN⟩ : ∃ N, N = max n m := ⟨_, rfl⟩
  obtain ⟨L, hL⟩ : ∃ L, L = N + 1 := ⟨_, rfl⟩
  have hLb : L ≤ 1073741825 := by omega
  have hL0 : 0 < L := by omega
  have hmx : max (n : Int) (m : Int) = (N : Int) := by omega
  have hL1 : (N : Int) + 1 = (L : Int) := by omega
  have hNL : Hid (max n m + 1 = L) := Lib.hid (by omega)
  have hNb : (N : Int) ≤ 1073741824 := by omega
  have hmk := run_make_bytes L (by omega)
  have hrow := Row.made w 5 L (.int .u8 0)
  have hb1 : Below w.heap.size w (w.alloc (.cells (madeCells #[.int .u8 0] L) 5)) := (Below.refl _ _).alloc (Nat.le_refl _) _
  obtain ⟨w1, hw1⟩ : ∃ w1, w1 = w.alloc (.cells (madeCells #[.int .u8 0] L) 5) := ⟨_, rfl⟩
  rw [← hw1] at hrow hb1
  obtain ⟨a, c, rfl⟩ := hs.sl
  obtain ⟨b, d, rfl⟩ := ht.sl
  have HDX := Lib.hid (fun (wr : World) (h : Chg w.heap.size w1 wr) (i : Nat) => digit_byt (.slice a n c) n V i wr (by omega) (hs.below (Chg.below hb1 hb1.size h (Nat.le_refl _))))
  have HDY := Lib.hid (fun (wr : World) (h : Chg w.heap.size w1 wr) (i : Nat) => digit_byt (.slice b m d) m U i wr (by omega) (ht.below (Chg.below hb1 hb1.size h (Nat.le_refl _))))
  have HW1 := Lib.hid hw1; have HB1 := Lib.hid hb1; have HROW := Lib.hid hrow
  clear hs ht hw1 hb1 hrow hN hL
  go_enter Tryz.func91, Tryz.ntmps91
  go_wp2_with fail
  rw [← HW1.out]
  obtain ⟨g, hg⟩ : ∃ g, g = w.heap.size := ⟨_, rfl⟩
  rw [← hg] at HDX HDY HROW ⊢
  have HG := Lib.hid hg; clear hg
  go_loopw [7, 8] (fun cy i wr => ∃ q k : Nat, ∃ D : Nat → Nat, q < 4 ∧ k ≤ L ∧ cy = .int .i64 q ∧ i = .int .i64 k ∧ Row wr g 5 L (fun j => .int .u8 (D j)) ∧ Hid (∀ j, j < L → D j < 256) ∧ Hid (Chg g w1 wr)) (fun _ i _ => L - (intOf i).toNat)
  case atStart => exact ⟨0, 0, fun _ => 0, by omega, by omega, by simp, by simp, HROW.out, Lib.hid (fun j hj => Nat.zero_lt_succ 255), Lib.hid (Chg.refl _ _)⟩
  case round =>
    obtain ⟨q, k, D, hq, hk, rfl, rfl, hr, HD, HCH⟩ := hrel
    by_cases hkl : k < L
    · have HR := Lib.hid hr; clear hr
      go_wp2_with fail
      refine (HDX.out _ HCH.out k).mono ?_
      rintro e w2 ⟨x, hx, rfl, kx, rfl⟩
      have HC2 := Lib.hid (HCH.out.drewN kx)
      go_wp2_with fail
      refine (HDY.out _ HC2.out k).mono ?_
      rintro e w3 ⟨y, hy, rfl, ky, rfl⟩
      have HC3 := Lib.hid (HC2.out.drewN ky)
      have HR3 := Lib.hid ((HR.out.drewN kx).drewN ky)
      obtain ⟨z, hz⟩ : ∃ z : Nat, (x : Int) + (y : Int) + (q : Int) = (z : Int) := ⟨x + y + q, by omega⟩
      have hzb : z < 514 := by omega
      have hwz : IntKind.i64.wrap ((x : Int) + (y : Int) + (q : Int)) = (z : Int) := by simp only [IntKind.wrap_i64]; omega
      generalize (wr.drewN kx).drewN ky = w4 at *
      have c0 := HR3.out.cell (i := L - 1 - k) (by omega)
      have f0 := HR3.out.frozen (L - 1 - k)
      have ei : ((L : Int) - 1 - (k : Int)).toNat = L - 1 - k := by omega
      have hm1 : (z : Int).tmod 256 = ((z % 256 : Nat) : Int) := by rw [Int.tmod_eq_emod_of_nonneg (by omega)]; omega
      have hd1 : (z : Int).tdiv 256 = ((z / 256 : Nat) : Int) := by rw [Int.tdiv_eq_ediv_of_nonneg (by omega)]; omega
      clear HC2 HCH HR
      go_wp2
      go_roundw
      case rel =>
        refine ⟨z / 256, k + 1, fun j => if j = L - 1 - k then z % 256 else D j, by omega, by omega, by go_num, by go_num, (HR3.out.set (L - 1 - k) _).congr (fun j hj => ?_), Lib.hid (fun j hj => ?_), Lib.hid (HC3.out.set _ _)⟩
        · show (if _ then _ else _) = _
          by_cases e : j = L - 1 - k
          · rw [if_pos e]; simp [e]
          · rw [if_neg e]; simp [e]
        · show (if _ then _ else _) < 256
          split
          · exact Nat.mod_lt _ (by decide)
          · exact HD.out j hj
      case measure => simp [intOf]; omega
    · obtain rfl : k = L := by omega
      obtain ⟨W, hW⟩ := byt_of_row hr HD.out
      have hbw := Chg.below HB1.out HB1.out.size HCH.out (by rw [HG.out]; exact Nat.le_refl _)
      have HCU := Lib.hid (cut_any _ k W wr hW (by omega))
      have HBW := Lib.hid hbw
      clear hW hbw hr
      go_wp2_with fail
      refine HCU.out.mono ?_
      rintro e w5 ⟨s5, l, rfl, hl, hn5⟩
      have HL := Lib.hid hl; have HN5 := Lib.hid hn5
      clear hl hn5
      go_wp2
      go_ret
      exact ⟨_, l, W, rfl, by rw [hNL.out]; exact HL.out, HN5.out.from HBW.out⟩

set_option maxRecDepth 100000 in
theorem less_any (s t : Value) (n m V U : Nat) (w : World) (hs : BytAt w s n V) (ht : BytAt w t m U) (hn : n ≤ 1073741824) (hm : m ≤ 1073741824) :
    Calls Tryz.prog 92 #[s, t] w fun e w' => ∃ s' l W, e = .returned s' ∧ l ≤ n ∧ NewMag w w' s' l W := by
  have hmk := run_make_bytes n (by omega)
  have hrow := Row.made w 5 n (.int .u8 0)
  have hb1 : Below w.heap.size w (w.alloc (.cells (madeCells #[.int .u8 0] n) 5)) := (Below.refl _ _).alloc (Nat.le_refl _) _
  obtain ⟨w1, hw1⟩ : ∃ w1, w1 = w.alloc (.cells (madeCells #[.int .u8 0] n) 5) := ⟨_, rfl⟩
  rw [← hw1] at hrow hb1
  obtain ⟨a, c, rfl⟩ := hs.sl
  obtain ⟨b, d, rfl⟩ := ht.sl
  have HDX := Lib.hid (fun (wr : World) (h : Chg w.heap.size w1 wr) (i : Nat) => digit_byt (.slice a n c) n V i wr (by omega) (hs.below (Chg.below hb1 hb1.size h (Nat.le_refl _))))
  have HDY := Lib.hid (fun (wr : World) (h : Chg w.heap.size w1 wr) (i : Nat) => digit_byt (.slice b m d) m U i wr (by omega) (ht.below (Chg.below hb1 hb1.size h (Nat.le_refl _))))
  have HW1 := Lib.hid hw1; have HB1 := Lib.hid hb1; have HROW := Lib.hid hrow
  clear hs ht hw1 hb1 hrow
  go_enter Tryz.func92, Tryz.ntmps92
  go_wp2_with fail
  rw [← HW1.out]
  obtain ⟨g, hg⟩ : ∃ g, g = w.heap.size := ⟨_, rfl⟩
  rw [← hg] at HDX HDY HROW ⊢
  have HG := Lib.hid hg; clear hg
  go_loopw [6, 7] (fun cy i wr => ∃ q k : Nat, ∃ D : Nat → Nat, q < 2 ∧ k ≤ n ∧ cy = .int .i64 q ∧ i = .int .i64 k ∧ Row wr g 5 n (fun j => .int .u8 (D j)) ∧ Hid (∀ j, j < n → D j < 256) ∧ Hid (Chg g w1 wr)) (fun _ i _ => n - (intOf i).toNat)
  case atStart => exact ⟨0, 0, fun _ => 0, by omega, by omega, by simp, by simp, HROW.out, Lib.hid (fun j hj => Nat.zero_lt_succ 255), Lib.hid (Chg.refl _ _)⟩
  case round =>
    obtain ⟨q, k, D, hq, hk, rfl, rfl, hr, HD, HCH⟩ := hrel
    by_cases hkl : k < n
    · have HR := Lib.hid hr; clear hr
      go_wp2_with fail
      refine (HDX.out _ HCH.out k).mono ?_
      rintro e w2 ⟨x, hx, rfl, kx, rfl⟩
      have HC2 := Lib.hid (HCH.out.drewN kx)
      go_wp2_with fail
      refine (HDY.out _ HC2.out k).mono ?_
      rintro e w3 ⟨y, hy, rfl, ky, rfl⟩
      have HC3 := Lib.hid (HC2.out.drewN ky)
      have HR3 := Lib.hid ((HR.out.drewN kx).drewN ky)
      generalize (wr.drewN kx).drewN ky = w4 at *
      have c0 := HR3.out.cell (i := n - 1 - k) (by omega)
      have f0 := HR3.out.frozen (n - 1 - k)
      have ei : ((n : Int) - 1 - (k : Int)).toNat = n - 1 - k := by omega
      obtain ⟨z, hz⟩ : ∃ z : Int, (x : Int) - (y : Int) - (q : Int) = z := ⟨_, rfl⟩
      have hz1 : -257 < z := by omega
      have hz2 : z < 256 := by omega
      clear HC2 HCH HR
      by_cases hneg : z < 0
      · obtain ⟨v, hv⟩ : ∃ v : Nat, z + 256 = (v : Int) := ⟨(z + 256).toNat, by omega⟩
        have hv2 : v < 256 := by omega
        go_wp2
        go_roundw
        case rel =>
          refine ⟨1, k + 1, fun j => if j = n - 1 - k then v else D j, by omega, by omega, by go_num, by go_num, (HR3.out.set (n - 1 - k) _).congr (fun j hj => ?_), Lib.hid (fun j hj => ?_), Lib.hid (HC3.out.set _ _)⟩
          · show (if _ then _ else _) = _
            by_cases e : j = n - 1 - k
            · rw [if_pos e]; simp [e]
            · rw [if_neg e]; simp [e]
          · show (if _ then _ else _) < 256
            split
            · exact hv2
            · exact HD.out j hj
        case measure => simp [intOf]; omega
      · obtain ⟨v, rfl⟩ : ∃ v : Nat, z = (v : Int) := ⟨z.toNat, by omega⟩
        have hv2 : v < 256 := by omega
        go_wp2
        go_roundw
        case rel =>
          refine ⟨0, k + 1, fun j => if j = n - 1 - k then v else D j, by omega, by omega, by go_num, by go_num, (HR3.out.set (n - 1 - k) _).congr (fun j hj => ?_), Lib.hid (fun j hj => ?_), Lib.hid (HC3.out.set _ _)⟩
          · show (if _ then _ else _) = _
            by_cases e : j = n - 1 - k
            · rw [if_pos e]; simp [e]
            · rw [if_neg e]; simp [e]
          · show (if _ then _ else _) < 256
            split
            · exact hv2
            · exact HD.out j hj
        case measure => simp [intOf]; omega
    · obtain rfl : k = n := by omega
      obtain ⟨W, hW⟩ := byt_of_row hr HD.out
      have hbw := Chg.below HB1.out HB1.out.size HCH.out (by rw [HG.out]; exact Nat.le_refl _)
      have HCU := Lib.hid (cut_any _ k W wr hW (by omega))
      have HBW := Lib.hid hbw
      clear hW hbw hr
      go_wp2_with fail
      refine HCU.out.mono ?_
      rintro e w5 ⟨s5, l, rfl, hl, hn5⟩
      have HL := Lib.hid hl; have HN5 := Lib.hid hn5
      clear hl hn5
      go_wp2
      go_ret
      exact ⟨_, l, W, rfl, HL.out, HN5.out.from HBW.out⟩
end Go.Proofs.YtgohhebffcldeaaGreatDoor

set_option linter.unusedVariables false
set_option linter.unusedSimpArgs false
namespace Go.Proofs.YtgohhebffcldeaaGreatDoor
open Go.RowKit
open Num

set_option maxRecDepth 100000 in
set_option maxHeartbeats 4000000 in
theorem Add_any (xn yn : Bool) (s t : Value) (n m V U : Nat) (w : World) (hs : MagAt w s n V) (ht : MagAt w t m U) (hn : n ≤ 16777216) (hm : m ≤ 16777216) :
    Calls Tryz.prog 56 #[.agg #[.bool xn, s], .agg #[.bool yn, t]] w fun e w' => ∃ ng s' l W, e = .returned (.agg #[.bool ng, s']) ∧ l ≤ max n m + 1 ∧ (ng = true → 0 < W ∧ (xn = yn → xn = true)) ∧ NewMag w w' s' l W := by
  obtain ⟨a, c, rfl⟩ := hs.shape
  obtain ⟨b, d, rfl⟩ := ht.shape
  obtain ⟨w1, hw1⟩ : ∃ w1, w1 = ((w.alloc (.cells #[.bool xn, .slice a n c] 29)).alloc (.cells #[.bool yn, .slice b m d] 29)).alloc (.cells #[.bool false, .slice none 0 0] 29) := ⟨_, rfl⟩
  have hb1 : Below w.heap.size w w1 := by rw [hw1]; exact (((Below.refl _ _).alloc (Nat.le_refl _) _).alloc (by simp) _).alloc (by simp; omega) _
  have r0 : w1.heap[w.heap.size]? = some (.cells #[.bool xn, .slice a n c] 29 (0, 0)) := by rw [hw1]; exact heap3_0 _ _ _ _
  have r1 : w1.heap[w.heap.size + 1]? = some (.cells #[.bool yn, .slice b m d] 29 (0, 0)) := by rw [hw1]; exact heap3_1 _ _ _ _
  have r2 : w1.heap[w.heap.size + 2]? = some (.cells #[.bool false, .slice none 0 0] 29 (0, 0)) := by rw [hw1]; exact heap3_2 _ _ _ _
  have hsz : w1.heap.size = w.heap.size + 3 := by rw [hw1]; simp
  have HP := Lib.hid (fun (W : World) (hb : Below w1.heap.size w1 W) => (show W.cell? ⟨w.heap.size, 0, none⟩ = some (.bool xn) ∧ W.cell? ⟨w.heap.size, 1, none⟩ = some (.slice a n c) ∧ W.cell? ⟨w.heap.size + 1, 0, none⟩ = some (.bool yn) ∧ W.cell? ⟨w.heap.size + 1, 1, none⟩ = some (.slice b m d) from
    ⟨(cell_of_row W _ 0 _ _ (0, 0) ((hb.block _ (by omega)).trans r0)).trans rfl, (cell_of_row W _ 1 _ _ (0, 0) ((hb.block _ (by omega)).trans r0)).trans rfl, (cell_of_row W _ 0 _ _ (0, 0) ((hb.block _ (by omega)).trans r1)).trans rfl, (cell_of_row W _ 1 _ _ (0, 0) ((hb.block _ (by omega)).trans r1)).trans rfl⟩))
  have HQ := Lib.hid (fun (W : World) (hb : Below w1.heap.size w1 W) => (show W.heap[w.heap.size + 2]? = some (.cells #[.bool false, .slice none 0 0] 29 (0, 0)) from (hb.block _ (by omega)).trans r2))
  have HSUM := Lib.hid (fun (W : World) (hb : Below w1.heap.size w1 W) => sum_any (.slice a n c) (.slice b m d) n m V U W ((hs.below hb1).below hb).byt ((ht.below hb1).below hb).byt (by omega) (by omega))
  have HL1 := Lib.hid (fun (W : World) (hb : Below w1.heap.size w1 W) => less_any (.slice a n c) (.slice b m d) n m V U W ((hs.below hb1).below hb).byt ((ht.below hb1).below hb).byt (by omega) (by omega))
  have HL2 := Lib.hid (fun (W : World) (hb : Below w1.heap.size w1 W) => less_any (.slice b m d) (.slice a n c) m n U V W ((ht.below hb1).below hb).byt ((hs.below hb1).below hb).byt (by omega) (by omega))
  have HORD := Lib.hid (fun (W : World) (hb : Below w1.heap.size w1 W) => order_any (.slice a n c) (.slice b m d) n m V U W ((hs.below hb1).below hb) ((ht.below hb1).below hb) hn hm)
  have HB1 := Lib.hid hb1; have HW1 := Lib.hid hw1; have HSZ := Lib.hid hsz
  have hNb : max n m + 1 ≤ 16777217 := by omega
  have HNB := Lib.hid hNb
  clear hs ht hb1 hw1 r0 r1 r2 hsz hNb
  obtain ⟨x0, x1, y0, y1⟩ := HP.out w1 (Below.refl _ _)
  by_cases hxy : xn = yn
  · have hd : (xn == yn) = true := by simpa using hxy
    have hd2 : (yn == xn) = true := by simpa using hxy.symm
    clear hxy
    go_enter Tryz.func56, Tryz.ntmps56
    go_wp2_with fail
    rw [← HW1.out]
    go_wp2_with fail
    obtain ⟨d0, d1, d2, d3⟩ := HP.out w1.drew (Below.refl w1.heap.size w1).drew
    go_region_law (first | (go_simp; go_at_call 91; refine (HSUM.out _ (Below.refl w1.heap.size w1).drew).mono ?_; rintro e w5 ⟨s5, l5, W5, rfl, hl5, hn5⟩; obtain ⟨a5, c5, rfl⟩ := hn5.1.shape; have hb5u := (Below.refl w1.heap.size w1).trans ((below_undrew hn5.2.2).mono (Below.refl w1.heap.size w1).size); obtain ⟨p0, p1, q0, q1⟩ := HP.out w5 hb5u; have HB5 := Lib.hid hb5u; have HL5 := Lib.hid hl5; have HOF := Lib.hid (Of_any xn (.slice a5 l5 c5) l5 W5 w5 hn5.1.byt (by have := HNB.out; omega)); clear hb5u hl5 hn5) | (go_simp; go_at_call 6; refine HOF.out.mono ?_; rintro e w6 ⟨s6, l6, rfl, hl6, hn6⟩; obtain ⟨a6, c6, rfl⟩ := hn6.1.shape; have HB6 := Lib.hid (HB5.out.trans (hn6.2.2.mono HB5.out.size)); have HR := Lib.hid (HQ.out w6 HB6.out); have z0 := (cell_of_row w6 _ 0 _ _ (0, 0) HR.out).trans rfl; have z1 := (cell_of_row w6 _ 1 _ _ (0, 0) HR.out).trans rfl; have f0 : ∀ i, w6.frozen? ⟨w.heap.size + 2, i, none⟩ = false := (fun i => by simp [World.frozen?, HR.out]); have HL6 := Lib.hid hl6; have HN6 := Lib.hid hn6; obtain ⟨ng, hng⟩ : ∃ ng, ng = (xn && decide (0 < W5)) := ⟨_, rfl⟩; rw [← hng]; have HNG := Lib.hid hng; clear hl6 hn6 hng))
    all_goals (
      go_wp2
      have hW := set1 (i := 1) (x := .slice a6 l6 c6) (set1 (i := 0) (x := .bool ng) HR.out)
      have e0 := (cell_of_row _ _ 0 _ _ (0, 0) hW).trans rfl
      have e1 := (cell_of_row _ _ 1 _ _ (0, 0) hW).trans rfl
      have hne : ∀ bb k c', Value.slice a6 l6 c6 = .slice (some bb) k c' → 0 < l6 → bb.block ≠ w.heap.size + 2 := fun bb k c' e h0 => by
        have h1 := HN6.out.2.1 bb k c' e h0
        have h2 := HB5.out.size
        have h3 := HSZ.out
        omega
      have hfin := ((HN6.out.from (HB1.out.trans (HB5.out.mono HB1.out.size))).put (by omega) (o := 0) hne (.bool ng)).put (by omega) (o := 1) hne (.slice a6 l6 c6)
      refine bodyPost_ret (v := .agg #[.bool ng, .slice a6 l6 c6]) (by simp [results, Tryz.results56, go_sem, e0, e1]) rfl ⟨ng, _, l6, W5, rfl, ?_, fun h => ?_, hfin⟩
      · have h1 := HL6.out
        have h2 := HL5.out
        omega
      · rw [HNG.out] at h
        simp at h
        exact ⟨h.2, fun _ => h.1⟩)
  · have hd : (xn == yn) = false := by simpa using hxy
    clear hxy
    by_cases hc : 0 ≤ sgn3 V U
    · obtain ⟨sg, hsg⟩ : ∃ sg, sg = sgn3 V U := ⟨_, rfl⟩
      rw [← hsg] at HORD hc
      clear hsg
      go_enter Tryz.func56, Tryz.ntmps56
      go_wp2_with fail
      rw [← HW1.out]
      go_wp2_with fail
      refine (HORD.out _ (Below.refl _ _)).mono ?_
      rintro e w3 ⟨rfl, hb3⟩
      have HB3 := Lib.hid hb3
      clear hb3
      go_wp2_with fail
      obtain ⟨d0, d1, d2, d3⟩ := HP.out w3.drew HB3.out.drew
      go_region_law (first | (go_simp; go_at_call 92; refine (HL1.out _ HB3.out.drew).mono ?_; rintro e w5 ⟨s5, l5, W5, rfl, hl5, hn5⟩; obtain ⟨a5, c5, rfl⟩ := hn5.1.shape; have hb5u := HB3.out.trans ((below_undrew hn5.2.2).mono HB3.out.size); obtain ⟨p0, p1, q0, q1⟩ := HP.out w5 hb5u; have HB5 := Lib.hid hb5u; have HL5 := Lib.hid hl5; have HOF := Lib.hid (Of_any xn (.slice a5 l5 c5) l5 W5 w5 hn5.1.byt (by have := HNB.out; omega)); clear hb5u hl5 hn5) | (go_simp; go_at_call 6; refine HOF.out.mono ?_; rintro e w6 ⟨s6, l6, rfl, hl6, hn6⟩; obtain ⟨a6, c6, rfl⟩ := hn6.1.shape; have HB6 := Lib.hid (HB5.out.trans (hn6.2.2.mono HB5.out.size)); have HR := Lib.hid (HQ.out w6 HB6.out); have z0 := (cell_of_row w6 _ 0 _ _ (0, 0) HR.out).trans rfl; have z1 := (cell_of_row w6 _ 1 _ _ (0, 0) HR.out).trans rfl; have f0 : ∀ i, w6.frozen? ⟨w.heap.size + 2, i, none⟩ = false := (fun i => by simp [World.frozen?, HR.out]); have HL6 := Lib.hid hl6; have HN6 := Lib.hid hn6; obtain ⟨ng, hng⟩ : ∃ ng, ng = (xn && decide (0 < W5)) := ⟨_, rfl⟩; rw [← hng]; have HNG := Lib.hid hng; clear hl6 hn6 hng))
      all_goals (
        go_wp2
        have hW := set1 (i := 1) (x := .slice a6 l6 c6) (set1 (i := 0) (x := .bool ng) HR.out)
        have e0 := (cell_of_row _ _ 0 _ _ (0, 0) hW).trans rfl
        have e1 := (cell_of_row _ _ 1 _ _ (0, 0) hW).trans rfl
        have hne : ∀ bb k c', Value.slice a6 l6 c6 = .slice (some bb) k c' → 0 < l6 → bb.block ≠ w.heap.size + 2 := fun bb k c' e h0 => by
          have h1 := HN6.out.2.1 bb k c' e h0
          have h2 := HB5.out.size
          have h3 := HSZ.out
          omega
        have hfin := ((HN6.out.from (HB1.out.trans (HB5.out.mono HB1.out.size))).put (by omega) (o := 0) hne (.bool ng)).put (by omega) (o := 1) hne (.slice a6 l6 c6)
        refine bodyPost_ret (v := .agg #[.bool ng, .slice a6 l6 c6]) (by simp [results, Tryz.results56, go_sem, e0, e1]) rfl ⟨ng, _, l6, W5, rfl, ?_, fun h => ?_, hfin⟩
        · have h1 := HL6.out
          have h2 := HL5.out
          omega
        · rw [HNG.out] at h
          simp at h
          exact ⟨h.2, fun e => by subst e; simp at hd⟩)
    · obtain ⟨sg, hsg⟩ : ∃ sg, sg = sgn3 V U := ⟨_, rfl⟩
      rw [← hsg] at HORD hc
      clear hsg
      go_enter Tryz.func56, Tryz.ntmps56
      go_wp2_with fail
      rw [← HW1.out]
      go_wp2_with fail
      refine (HORD.out _ (Below.refl _ _)).mono ?_
      rintro e w3 ⟨rfl, hb3⟩
      have HB3 := Lib.hid hb3
      clear hb3
      go_wp2_with fail
      obtain ⟨d0, d1, d2, d3⟩ := HP.out w3.drew HB3.out.drew
      go_region_law (first | (go_simp; go_at_call 92; refine (HL2.out _ HB3.out.drew).mono ?_; rintro e w5 ⟨s5, l5, W5, rfl, hl5, hn5⟩; obtain ⟨a5, c5, rfl⟩ := hn5.1.shape; have hb5u := HB3.out.trans ((below_undrew hn5.2.2).mono HB3.out.size); obtain ⟨p0, p1, q0, q1⟩ := HP.out w5 hb5u; have HB5 := Lib.hid hb5u; have HL5 := Lib.hid hl5; have HOF := Lib.hid (Of_any yn (.slice a5 l5 c5) l5 W5 w5 hn5.1.byt (by have := HNB.out; omega)); clear hb5u hl5 hn5) | (go_simp; go_at_call 6; refine HOF.out.mono ?_; rintro e w6 ⟨s6, l6, rfl, hl6, hn6⟩; obtain ⟨a6, c6, rfl⟩ := hn6.1.shape; have HB6 := Lib.hid (HB5.out.trans (hn6.2.2.mono HB5.out.size)); have HR := Lib.hid (HQ.out w6 HB6.out); have z0 := (cell_of_row w6 _ 0 _ _ (0, 0) HR.out).trans rfl; have z1 := (cell_of_row w6 _ 1 _ _ (0, 0) HR.out).trans rfl; have f0 : ∀ i, w6.frozen? ⟨w.heap.size + 2, i, none⟩ = false := (fun i => by simp [World.frozen?, HR.out]); have HL6 := Lib.hid hl6; have HN6 := Lib.hid hn6; obtain ⟨ng, hng⟩ : ∃ ng, ng = (yn && decide (0 < W5)) := ⟨_, rfl⟩; rw [← hng]; have HNG := Lib.hid hng; clear hl6 hn6 hng))
      all_goals (
        go_wp2
        have hW := set1 (i := 1) (x := .slice a6 l6 c6) (set1 (i := 0) (x := .bool ng) HR.out)
        have e0 := (cell_of_row _ _ 0 _ _ (0, 0) hW).trans rfl
        have e1 := (cell_of_row _ _ 1 _ _ (0, 0) hW).trans rfl
        have hne : ∀ bb k c', Value.slice a6 l6 c6 = .slice (some bb) k c' → 0 < l6 → bb.block ≠ w.heap.size + 2 := fun bb k c' e h0 => by
          have h1 := HN6.out.2.1 bb k c' e h0
          have h2 := HB5.out.size
          have h3 := HSZ.out
          omega
        have hfin := ((HN6.out.from (HB1.out.trans (HB5.out.mono HB1.out.size))).put (by omega) (o := 0) hne (.bool ng)).put (by omega) (o := 1) hne (.slice a6 l6 c6)
        refine bodyPost_ret (v := .agg #[.bool ng, .slice a6 l6 c6]) (by simp [results, Tryz.results56, go_sem, e0, e1]) rfl ⟨ng, _, l6, W5, rfl, ?_, fun h => ?_, hfin⟩
        · have h1 := HL6.out
          have h2 := HL5.out
          omega
        · rw [HNG.out] at h
          simp at h
          exact ⟨h.2, fun e => by subst e; simp at hd⟩)
end Go.Proofs.YtgohhebffcldeaaGreatDoor

set_option linter.unusedVariables false
set_option linter.unusedSimpArgs false
namespace Go.Proofs.YtgohhebffcldeaaGreatDoor
open Go.RowKit
open Num

theorem and_i64_1 (x : Nat) (hx : x < 9223372036854775808) : bits .and .i64 (x : Int) 1 = ((x % 2 : Nat) : Int) := by
  have h1 : (BitVec.ofInt 64 (x : Int)).toNat = x := by
    rw [BitVec.ofInt_natCast, BitVec.toNat_ofNat]; exact Nat.mod_eq_of_lt (by omega)
  have h2 : (BitVec.ofInt 64 1).toNat = 1 := by decide
  have h3 : x &&& 1 = x % 2 := Nat.and_two_pow_sub_one_eq_mod x 1
  show IntKind.i64.wrap ((BitVec.ofInt 64 (x : Int) &&& BitVec.ofInt 64 1).toNat : Int) = _
  rw [BitVec.toNat_and, h1, h2, h3, IntKind.wrap_i64]
  omega

theorem bit_any (s : Value) (n V i : Nat) (w : World) (hn : n ≤ 1073741824) (hi : i ≤ 1099511627776) (h : BytAt w s n V) :
    Calls Tryz.prog 55 #[s, .int .i64 i] w fun e w' => ∃ b : Nat, b ≤ 1 ∧ e = .returned (.int .i64 b) ∧ ∃ k, w' = w.drewN k := by
  have HD := Lib.hid (digit_byt s n V (i / 8) w (by omega) h)
  have hq : (i : Int).tdiv 8 = ((i / 8 : Nat) : Int) := by rw [Int.tdiv_eq_ediv_of_nonneg (by omega)]; omega
  have hr : (i : Int).tmod 8 = ((i % 8 : Nat) : Int) := by rw [Int.tmod_eq_emod_of_nonneg (by omega)]; omega
  have hr2 : i % 8 < 8 := Nat.mod_lt _ (by decide)
  obtain ⟨q, hqq⟩ : ∃ q, q = i / 8 := ⟨_, rfl⟩
  obtain ⟨r, hrr⟩ : ∃ r, r = i % 8 := ⟨_, rfl⟩
  have hq2 : q ≤ 1099511627776 := by omega
  rw [← hqq] at HD hq
  rw [← hrr] at hr hr2
  clear hqq hrr h
  go_enter Tryz.func55, Tryz.ntmps55
  go_wp2_with fail
  refine HD.out.mono ?_
  rintro e w2 ⟨d, hd, rfl, k, rfl⟩
  have hle : d / 2 ^ r ≤ d := Nat.div_le_self _ _
  have hsh : bits .and .i64 ((d : Int) / 2 ^ r) 1 = ((d / 2 ^ r % 2 : Nat) : Int) := by
    have := and_i64_1 (d / 2 ^ r) (by omega)
    rw [Int.natCast_ediv, Int.natCast_pow] at this
    exact this
  have hb : d / 2 ^ r % 2 ≤ 1 := by have := Nat.mod_lt (d / 2 ^ r) (show 0 < 2 by decide); omega
  obtain ⟨b, hbb⟩ : ∃ b, b = d / 2 ^ r % 2 := ⟨_, rfl⟩
  rw [← hbb] at hsh hb
  clear hbb hle HD
  go_wp2
  go_ret
  exact ⟨b, hb, rfl, _, rfl⟩

theorem Length_any (neg : Bool) (s : Value) (n V : Nat) (w : World) (h : MagAt w s n V) (hn : n ≤ 16777216) :
    Calls Tryz.prog 49 #[.agg #[.bool neg, s]] w fun e w' => ∃ L : Nat, L ≤ 8 * n ∧ e = .returned (.int .i64 L) ∧ Below w.heap.size w w' := by
  obtain ⟨a, c, rfl⟩ := h.shape
  obtain ⟨w1, hw1⟩ : ∃ w1, w1 = w.alloc (.cells #[.bool neg, .slice a n c] 29) := ⟨_, rfl⟩
  have hb1 : Below w.heap.size w w1 := by rw [hw1]; exact (Below.refl _ _).alloc (Nat.le_refl _) _
  have r0 : w1.heap[w.heap.size]? = some (.cells #[.bool neg, .slice a n c] 29 (0, 0)) := by rw [hw1]; exact heap_alloc_new _ _
  have HBT := Lib.hid (fun (q i : Nat) (hi : i ≤ 1099511627776) => bit_any (.slice a n c) n V i (w1.drewN q) (by omega) hi ((h.below hb1).byt.below (below_drewN (Below.refl _ _))))
  have x1 := (cell_of_row w1 _ 1 _ _ (0, 0) r0).trans rfl
  obtain ⟨N, hN⟩ : ∃ N : Nat, N = 8 * n := ⟨_, rfl⟩
  have hN2 : 8 * (n : Int) = (N : Int) := by omega
  have hNb : N ≤ 134217728 := by omega
  have HB1 := Lib.hid hb1; have HW1 := Lib.hid hw1
  rw [← hN]
  clear h hw1 hb1 r0 hN
  go_enter Tryz.func49, Tryz.ntmps49
  go_wp2_with fail
  rw [← HW1.out]
  go_wp2_with fail
  go_loopw [3] (fun i wr => ∃ k q : Nat, k ≤ N ∧ i = .int .i64 k ∧ w1.drewN q = wr) (fun i _ => (intOf i).toNat)
  case atStart => exact ⟨N, 0, by omega, by go_num, rfl⟩
  case round =>
    obtain ⟨k, q, hk, rfl, rfl⟩ := hrel
    have x1' : (w1.drewN q).cell? ⟨w.heap.size, 1, none⟩ = some (.slice a n c) := x1
    by_cases hk0 : 0 < k
    · obtain ⟨j, rfl⟩ : ∃ j, k = j + 1 := ⟨k - 1, by omega⟩
      have hj : j ≤ 1099511627776 := by omega
      go_wp2_with fail
      refine (HBT.out q j hj).mono ?_
      rintro e w2 ⟨b, hb, rfl, k2, rfl⟩
      have hbb : b = 0 ∨ b = 1 := by omega
      rcases hbb with rfl | rfl
      · go_wp2
        go_roundw
        case rel => exact ⟨j, q + k2, by omega, by go_num, rfl⟩
        case measure => simp [intOf]
      · go_wp2
        go_ret
        exact ⟨j + 1, hk, rfl, by first | exact below_drewN HB1.out | exact below_drewN (below_drewN HB1.out)⟩
    · obtain rfl : k = 0 := by omega
      go_wp2
      go_ret
      exact ⟨0, by omega, rfl, below_drewN HB1.out⟩

theorem digit_byt0 (s : Value) (n V i : Nat) (w : World) (hn : n ≤ 1099511627776) (h : BytAt w s n V) :
    Calls Tryz.prog 90 #[s, .int .i64 i] w fun e w' => ∃ d : Nat, d < 256 ∧ (n = 0 → d = 0) ∧ e = .returned (.int .i64 d) ∧ ∃ k, w' = w.drewN k := by
  by_cases h0 : n = 0
  · obtain ⟨a, c, rfl⟩ := h.sl
    subst h0
    refine (digit_out a c 0 i w (by omega)).mono ?_
    rintro e w' ⟨rfl, rfl⟩
    exact ⟨0, by decide, fun _ => rfl, rfl, 0, rfl⟩
  · refine (digit_byt s n V i w hn h).mono ?_
    rintro e w' ⟨d, hd, he, hk⟩
    exact ⟨d, hd, fun e => absurd e h0, he, hk⟩

theorem low_any (neg : Bool) (s : Value) (n V : Nat) (w : World) (h : MagAt w s n V) (hn : n ≤ 16777216) :
    Calls Tryz.prog 59 #[.agg #[.bool neg, s]] w fun e w' => ∃ U : Nat, U < 18446744073709551616 ∧ (n = 0 → U = 0) ∧ e = .returned (.int .u64 U) ∧ Below w.heap.size w w' := by
  obtain ⟨a, c, rfl⟩ := h.shape
  obtain ⟨w1, hw1⟩ : ∃ w1, w1 = w.alloc (.cells #[.bool neg, .slice a n c] 29) := ⟨_, rfl⟩
  have hb1 : Below w.heap.size w w1 := by rw [hw1]; exact (Below.refl _ _).alloc (Nat.le_refl _) _
  have r0 : w1.heap[w.heap.size]? = some (.cells #[.bool neg, .slice a n c] 29 (0, 0)) := by rw [hw1]; exact heap_alloc_new _ _
  have HDG := Lib.hid (fun (q i : Nat) => digit_byt0 (.slice a n c) n V i (w1.drewN q) (by omega) ((h.below hb1).byt.below (below_drewN (Below.refl _ _))))
  have x1 := (cell_of_row w1 _ 1 _ _ (0, 0) r0).trans rfl
  have HB1 := Lib.hid hb1; have HW1 := Lib.hid hw1
  clear h hw1 hb1 r0
  go_enter Tryz.func59, Tryz.ntmps59
  go_wp2_with fail
  rw [← HW1.out]
  go_wp2_with fail
  go_loopw [3, 4] (fun u i wr => ∃ U k q : Nat, U < 18446744073709551616 ∧ k ≤ 8 ∧ u = .int .u64 U ∧ i = .int .i64 (7 - (k : Int)) ∧ w1.drewN q = wr ∧ Hid (n = 0 → U = 0)) (fun _ i _ => (intOf i + 1).toNat)
  case atStart => exact ⟨0, 0, 0, by decide, by decide, by simp, by simp, rfl, Lib.hid (fun _ => rfl)⟩
  case round =>
    obtain ⟨U, k, q, hU, hk, rfl, rfl, rfl, HZ⟩ := hrel
    have x1' : (w1.drewN q).cell? ⟨w.heap.size, 1, none⟩ = some (.slice a n c) := x1
    by_cases hk8 : k < 8
    · obtain ⟨j, hj⟩ : ∃ j : Nat, 7 - (k : Int) = (j : Int) := ⟨7 - k, by omega⟩
      have hj7 : j ≤ 7 := by omega
      have hjk : k = 7 - j := by omega
      rw [hj]
      obtain ⟨X, hX⟩ : ∃ X : Nat, IntKind.u64.wrap ((U : Int) * 256) = (X : Int) := ⟨U * 256 % 18446744073709551616, by rw [IntKind.wrap_u64]; omega⟩
      have hX2 : X < 18446744073709551616 := by rw [IntKind.wrap_u64] at hX; omega
      have HX0 : Hid (U = 0 → X = 0) := Lib.hid (fun e => by subst e; rw [IntKind.wrap_u64] at hX; omega)
      go_wp2_with fail
      refine (HDG.out q j).mono ?_
      rintro e w2 ⟨d, hd, hd0, rfl, k2, rfl⟩
      have hor : bits .or .u64 (X : Int) (d : Int) = ((X ||| d : Nat) : Int) := bits_or_u64_nat X d hX2 (by omega)
      have hlt : X ||| d < 18446744073709551616 := Nat.or_lt_two_pow (n := 64) hX2 (by omega)
      have HZ2 : Hid (n = 0 → X ||| d = 0) := Lib.hid (fun e => by rw [HX0.out (HZ.out e), hd0 e]; rfl)
      obtain ⟨Y, hY⟩ : ∃ Y, Y = X ||| d := ⟨_, rfl⟩
      rw [← hY] at hor hlt HZ2
      clear hY hd0
      go_wp2
      go_roundw
      case rel => exact ⟨Y, k + 1, q + k2, hlt, by omega, by go_num, by go_num, rfl, HZ2⟩
      case measure => simp [intOf]
    · obtain rfl : k = 8 := by omega
      go_wp2
      go_ret
      exact ⟨U, hU, HZ.out, rfl, below_drewN HB1.out⟩
end Go.Proofs.YtgohhebffcldeaaGreatDoor

set_option linter.unusedVariables false
set_option linter.unusedSimpArgs false
namespace Go.Proofs.YtgohhebffcldeaaGreatDoor
open Go.RowKit
open Num

theorem Minus_any (neg : Bool) (s : Value) (n V : Nat) (w : World) (hm : MagAt w s n V) (hn : n ≤ 33554432) :
    Calls Tryz.prog 85 #[.agg #[.bool neg, s]] w fun e w' => ∃ ng s' m, e = .returned (.agg #[.bool ng, s']) ∧ m ≤ n ∧ MagAt w' s' m V ∧ Below w.heap.size w w' := by
  obtain ⟨a, c, rfl⟩ := hm.shape
  obtain ⟨w1, hw1⟩ : ∃ w1, w1 = (w.alloc (.cells #[.bool neg, .slice a n c] 29)).alloc (.cells #[.bool false, .slice none 0 0] 29) := ⟨_, rfl⟩
  have hb1 : Below w.heap.size w w1 := by rw [hw1]; exact ((Below.refl _ _).alloc (Nat.le_refl _) _).alloc (by simp) _
  have r1 : w1.heap[w.heap.size]? = some (.cells #[.bool neg, .slice a n c] 29 (0, 0)) := by rw [hw1]; exact heap2_0 _ _ _
  have r2 : w1.heap[w.heap.size + 1]? = some (.cells #[.bool false, .slice none 0 0] 29 (0, 0)) := by rw [hw1]; exact heap2_1 _ _ _
  have HOF := Lib.hid (Of_any (!neg) (.slice a n c) n V w1 (hm.below hb1).byt (by omega))
  have x0 := (cell_of_row w1 _ 0 _ _ (0, 0) r1).trans rfl
  have x1 := (cell_of_row w1 _ 1 _ _ (0, 0) r1).trans rfl
  have l2 := (Array.getElem?_eq_some_iff.1 r2).1
  have HB1 := Lib.hid hb1; have HR2 := Lib.hid r2; have HW1 := Lib.hid hw1; have HL2 := Lib.hid l2
  clear hm hw1 hb1 r1 r2 l2
  go_enter Tryz.func85, Tryz.ntmps85
  go_wp2_with fail
  rw [← HW1.out]
  go_wp2_with fail
  refine HOF.out.mono ?_
  rintro e w2 ⟨s', m, rfl, hm2, hn2⟩
  obtain ⟨a2, c2, rfl⟩ := hn2.1.shape
  have hR := (hn2.2.2.block _ HL2.out).trans HR2.out
  have hne : ∀ b k c', Value.slice a2 m c2 = .slice (some b) k c' → 0 < m → b.block ≠ w.heap.size + 1 := fun b k c' e h0 => by
    have := hn2.2.1 b k c' e h0
    have := HL2.out
    omega
  obtain ⟨ng, hng⟩ : ∃ ng, ng = (!neg && decide (0 < V)) := ⟨_, rfl⟩
  rw [← hng]
  have HN := Lib.hid (hn2.from HB1.out)
  have HNE := Lib.hid hne; have HR := Lib.hid hR
  have z0 := (cell_of_row w2 _ 0 _ _ (0, 0) hR).trans rfl
  have z1 := (cell_of_row w2 _ 1 _ _ (0, 0) hR).trans rfl
  have f0 : ∀ i, w2.frozen? ⟨w.heap.size + 1, i, none⟩ = false := fun i => by simp [World.frozen?, hR]
  clear hn2 hne hR x0 x1 hng
  go_wp2
  have hW := set1 (i := 1) (x := .slice a2 m c2) (set1 (i := 0) (x := .bool ng) HR.out)
  have e0 := (cell_of_row _ _ 0 _ _ (0, 0) hW).trans rfl
  have e1 := (cell_of_row _ _ 1 _ _ (0, 0) hW).trans rfl
  have hfin := (HN.out.put (by omega) (o := 0) HNE.out (.bool ng)).put (by omega) (o := 1) HNE.out (.slice a2 m c2)
  exact bodyPost_ret (v := .agg #[.bool ng, .slice a2 m c2]) (by simp [results, Tryz.results85, go_sem, e0, e1]) rfl ⟨ng, _, m, rfl, hm2, hfin.1, hfin.2.2⟩

set_option maxRecDepth 100000 in
set_option maxHeartbeats 1000000 in
theorem Sub_any (xn yn : Bool) (s t : Value) (n m V U : Nat) (w : World) (hs : MagAt w s n V) (ht : MagAt w t m U) (hn : n ≤ 16777216) (hm : m ≤ 16777216) :
    Calls Tryz.prog 51 #[.agg #[.bool xn, s], .agg #[.bool yn, t]] w fun e w' => ∃ ng s' l W, e = .returned (.agg #[.bool ng, s']) ∧ l ≤ max n m + 1 ∧ (ng = true → 0 < W) ∧ NewMag w w' s' l W := by
  obtain ⟨a, c, rfl⟩ := hs.shape
  obtain ⟨b, d, rfl⟩ := ht.shape
  obtain ⟨w1, hw1⟩ : ∃ w1, w1 = ((w.alloc (.cells #[.bool xn, .slice a n c] 29)).alloc (.cells #[.bool yn, .slice b m d] 29)).alloc (.cells #[.bool false, .slice none 0 0] 29) := ⟨_, rfl⟩
  have hb1 : Below w.heap.size w w1 := by rw [hw1]; exact (((Below.refl _ _).alloc (Nat.le_refl _) _).alloc (by simp) _).alloc (by simp; omega) _
  have r0 : w1.heap[w.heap.size]? = some (.cells #[.bool xn, .slice a n c] 29 (0, 0)) := by rw [hw1]; exact heap3_0 _ _ _ _
  have r1 : w1.heap[w.heap.size + 1]? = some (.cells #[.bool yn, .slice b m d] 29 (0, 0)) := by rw [hw1]; exact heap3_1 _ _ _ _
  have r2 : w1.heap[w.heap.size + 2]? = some (.cells #[.bool false, .slice none 0 0] 29 (0, 0)) := by rw [hw1]; exact heap3_2 _ _ _ _
  have hsz : w1.heap.size = w.heap.size + 3 := by rw [hw1]; simp
  have HP := Lib.hid (fun (W : World) (hb : Below w1.heap.size w1 W) => (show W.cell? ⟨w.heap.size, 0, none⟩ = some (.bool xn) ∧ W.cell? ⟨w.heap.size, 1, none⟩ = some (.slice a n c) ∧ W.cell? ⟨w.heap.size + 1, 0, none⟩ = some (.bool yn) ∧ W.cell? ⟨w.heap.size + 1, 1, none⟩ = some (.slice b m d) from
    ⟨(cell_of_row W _ 0 _ _ (0, 0) ((hb.block _ (by omega)).trans r0)).trans rfl, (cell_of_row W _ 1 _ _ (0, 0) ((hb.block _ (by omega)).trans r0)).trans rfl, (cell_of_row W _ 0 _ _ (0, 0) ((hb.block _ (by omega)).trans r1)).trans rfl, (cell_of_row W _ 1 _ _ (0, 0) ((hb.block _ (by omega)).trans r1)).trans rfl⟩))
  have HQ := Lib.hid (fun (W : World) (hb : Below w1.heap.size w1 W) => (show W.heap[w.heap.size + 2]? = some (.cells #[.bool false, .slice none 0 0] 29 (0, 0)) from (hb.block _ (by omega)).trans r2))
  have HMI := Lib.hid (fun (W : World) (hb : Below w1.heap.size w1 W) => Minus_any yn (.slice b m d) m U W ((ht.below hb1).below hb) (by omega))
  have HADD := Lib.hid (fun (W : World) (hb : Below w1.heap.size w1 W) (ng : Bool) (s' : Value) (k : Nat) (hmm : MagAt W s' k U) (hk : k ≤ m) => Add_any xn ng (.slice a n c) s' n k V U W ((hs.below hb1).below hb) hmm hn (by omega))
  have HB1 := Lib.hid hb1; have HW1 := Lib.hid hw1; have HSZ := Lib.hid hsz
  clear hs ht hb1 hw1 r0 r1 r2 hsz
  obtain ⟨x0, x1, y0, y1⟩ := HP.out w1.drew (Below.refl _ _).drew
  go_enter Tryz.func51, Tryz.ntmps51
  go_wp2_with fail
  rw [← HW1.out]
  go_region_law (first | (go_simp; go_at_call 85; refine (HMI.out _ (Below.refl _ _).drew).mono ?_; rintro e w5 ⟨ng5, s5, l5, rfl, hl5, hm5, hb5⟩; obtain ⟨a5, c5, rfl⟩ := hm5.shape; have hb5u := below_undrew hb5; obtain ⟨p0, p1, q0, q1⟩ := HP.out w5 hb5u; have HB5 := Lib.hid hb5u; have HL5 := Lib.hid hl5; have HA5 := Lib.hid (HADD.out w5 hb5u ng5 _ l5 hm5 hl5); clear hb5u hl5 hm5 hb5) | (go_simp; go_at_call 56; refine HA5.out.mono ?_; rintro e w6 ⟨ng, s6, l6, W6, rfl, hl6, hg6, hn6⟩; obtain ⟨a6, c6, rfl⟩ := hn6.1.shape; have HB6 := Lib.hid (HB5.out.trans (hn6.2.2.mono HB5.out.size)); have HR := Lib.hid (HQ.out w6 HB6.out); have z0 := (cell_of_row w6 _ 0 _ _ (0, 0) HR.out).trans rfl; have z1 := (cell_of_row w6 _ 1 _ _ (0, 0) HR.out).trans rfl; have f0 : ∀ i, w6.frozen? ⟨w.heap.size + 2, i, none⟩ = false := (fun i => by simp [World.frozen?, HR.out]); have HL6 := Lib.hid hl6; have HN6 := Lib.hid hn6; have HG6 := Lib.hid (fun h => (hg6 h).1); clear hl6 hn6 hg6))
  all_goals (
    go_wp2
    have hW := set1 (i := 1) (x := .slice a6 l6 c6) (set1 (i := 0) (x := .bool ng) HR.out)
    have e0 := (cell_of_row _ _ 0 _ _ (0, 0) hW).trans rfl
    have e1 := (cell_of_row _ _ 1 _ _ (0, 0) hW).trans rfl
    have hne : ∀ bb k c', Value.slice a6 l6 c6 = .slice (some bb) k c' → 0 < l6 → bb.block ≠ w.heap.size + 2 := fun bb k c' e h0 => by
      have h1 := HN6.out.2.1 bb k c' e h0
      have h2 := HB5.out.size
      have h3 := HSZ.out
      omega
    have hfin := ((HN6.out.from (HB1.out.trans (HB5.out.mono HB1.out.size))).put (by omega) (o := 0) hne (.bool ng)).put (by omega) (o := 1) hne (.slice a6 l6 c6)
    refine bodyPost_ret (v := .agg #[.bool ng, .slice a6 l6 c6]) (by simp [results, Tryz.results51, go_sem, e0, e1]) rfl ⟨ng, _, l6, W6, rfl, ?_, HG6.out, hfin⟩
    have h1 := HL6.out
    have h2 := HL5.out
    omega)
end Go.Proofs.YtgohhebffcldeaaGreatDoor

set_option linter.unusedVariables false
set_option linter.unusedSimpArgs false
namespace Go.Proofs.YtgohhebffcldeaaGreatDoor
open Go.RowKit
open Num

theorem balloc (w : World) (O : Obj) : Below w.heap.size w (w.alloc O) := (Below.refl _ _).alloc (Nat.le_refl _) _
theorem or_u8 (a b : Nat) (ha : a < 256) (hb : b < 256) : bits .or .u8 (a : Int) (b : Int) = ((a ||| b : Nat) : Int) := by
  have h1 : (BitVec.ofInt 8 (a : Int)).toNat = a := by
    rw [BitVec.ofInt_natCast, BitVec.toNat_ofNat]; exact Nat.mod_eq_of_lt (by omega)
  have h2 : (BitVec.ofInt 8 (b : Int)).toNat = b := by
    rw [BitVec.ofInt_natCast, BitVec.toNat_ofNat]; exact Nat.mod_eq_of_lt (by omega)
  have h3 : a ||| b < 256 := Nat.or_lt_two_pow (n := 8) ha hb
  show IntKind.u8.wrap ((BitVec.ofInt 8 (a : Int) ||| BitVec.ofInt 8 (b : Int)).toNat : Int) = _
  rw [BitVec.toNat_or, h1, h2, IntKind.wrap_u8]
  omega

set_option maxRecDepth 100000 in
set_option maxHeartbeats 4000000 in
theorem split_any (s t : Value) (n m V U : Nat) (w : World) (hs : MagAt w s n V) (ht : MagAt w t m U) (hn : n ≤ 65536) (hm : m ≤ 65536) :
    Calls Tryz.prog 125 #[s, t] w fun e w' => ∃ q r k l Q R, e = .returned (.tuple #[q, r]) ∧ k ≤ n ∧ l ≤ 16 * n ∧ MagAt w' q k Q ∧ MagAt w' r l R ∧ Below w.heap.size w w' := by
  have hmk := run_make_bytes n (by omega)
  have hrow0 := Row.made w 5 n (.int .u8 0)
  obtain ⟨w2, hw2⟩ : ∃ w2, w2 = (w.alloc (.cells (madeCells #[.int .u8 0] n) 5)).alloc (.cells #[] 5) := ⟨_, rfl⟩
  have hrow : Row w2 w.heap.size 5 n (fun _ => .int .u8 0) := by rw [hw2]; exact hrow0.alloc _
  have hb2 : Below w.heap.size w w2 := by rw [hw2]; exact ((Below.refl _ _).alloc (Nat.le_refl _) _).alloc (by simp) _
  obtain ⟨a, c, rfl⟩ := hs.shape
  obtain ⟨b, d, rfl⟩ := ht.shape
  obtain ⟨N, hN⟩ : ∃ N, N = 8 * n := ⟨_, rfl⟩
  have hN1 : 8 * (n : Int) = (N : Int) := by omega
  have hNb : N ≤ 524288 := by omega
  have HROW := Lib.hid hrow; have HB2 := Lib.hid hb2; have HW2 := Lib.hid hw2; have HNN := Lib.hid hN
  clear hrow hb2 hw2 hrow0 hN
  go_enter Tryz.func125, Tryz.ntmps125
  go_wp2_with fail
  rw [← HW2.out]
  obtain ⟨g, hg⟩ : ∃ g, g = w.heap.size := ⟨_, rfl⟩
  rw [← hg] at HROW ⊢
  have HG := Lib.hid hg; clear hg
  go_loopw [7, 8] (fun lf i wr => ∃ k l L : Nat, ∃ D : Nat → Nat, ∃ a c, lf = .slice a l c ∧ i = .int .i64 ((k : Int) - 1) ∧ k ≤ N ∧ l ≤ 2 * (N - k) ∧ Row wr g 5 n (fun j => .int .u8 (D j)) ∧ Hid (∀ j, j < n → D j < 256) ∧ Hid (NewMag w wr (.slice a l c) l L) ∧ Hid (∀ ad k c', Value.slice a l c = .slice (some ad) k c' → 0 < l → ad.block ≠ g)) (fun _ i _ => (intOf i + 1).toNat)
  case atStart => exact ⟨N, 0, 0, fun _ => 0, _, _, rfl, by go_num, by omega, by omega, HROW.out, Lib.hid (fun j hj => Nat.zero_lt_succ 255), Lib.hid ⟨⟨⟨by simp, fun h => absurd h (by omega)⟩, .inl ⟨rfl, _, _, rfl⟩⟩, fun _ _ _ _ h => absurd h (by omega), HB2.out⟩, Lib.hid (fun _ _ _ _ h => absurd h (by omega))⟩
  case round =>
    obtain ⟨k, l, L, D, a3, c3, rfl, rfl, hk, hl, hr, HD, HN3, HNE3⟩ := hrel
    by_cases hk0 : 0 < k
    · obtain ⟨j, rfl⟩ : ∃ j, k = j + 1 := ⟨k - 1, by omega⟩
      have hj1 : ((j + 1 : Nat) : Int) - 1 = (j : Int) := by omega
      rw [hj1]
      have hj : j ≤ 1099511627776 := by omega
      have hl4 : l ≤ 1048576 := by omega
      have HSU := Lib.hid (sum_any (.slice a3 l c3) (.slice a3 l c3) l l L L wr HN3.out.1.byt HN3.out.1.byt (by omega) (by omega))
      obtain ⟨q, hq⟩ : ∃ q : Nat, (j : Int).tdiv 8 = (q : Int) := ⟨j / 8, by rw [Int.tdiv_eq_ediv_of_nonneg (by omega)]; omega⟩
      have hqn : q < n := by
        rw [Int.tdiv_eq_ediv_of_nonneg (by omega)] at hq
        have := HNN.out
        omega
      have eq : ((n : Int) - 1 - (q : Int)).toNat = n - 1 - q := by omega
      obtain ⟨r, hr8⟩ : ∃ r : Nat, (j : Int).tmod 8 = (r : Int) := ⟨j % 8, by rw [Int.tmod_eq_emod_of_nonneg (by omega)]; omega⟩
      have hrl : r < 8 := by rw [Int.tmod_eq_emod_of_nonneg (by omega)] at hr8; omega
      obtain ⟨p, hpp⟩ : ∃ p : Nat, IntKind.u8.wrap (2 ^ r) = (p : Int) := ⟨2 ^ r % 256, by rw [IntKind.wrap_u8]; simp⟩
      have hp : p < 256 := by rw [IntKind.wrap_u8] at hpp; omega
      have HRR := Lib.hid hr; clear hr
      go_wp2_with fail
      refine HSU.out.mono ?_
      rintro e w3 ⟨s3, l3, L3, rfl, hl3, hn3⟩
      obtain ⟨a4, c4, rfl⟩ := hn3.1.shape
      have HR3 := Lib.hid (HRR.out.below hn3.2.2 HRR.out.lt)
      have HNEL := Lib.hid (show ∀ ad k c', Value.slice a4 l3 c4 = .slice (some ad) k c' → 0 < l3 → ad.block ≠ g from fun ad k c' e h0 => by
        have h1 := hn3.2.1 ad k c' e h0
        have h2 := HRR.out.lt
        omega)
      have HNL := Lib.hid (hn3.from HN3.out.2.2)
      have hl3b : l3 ≤ l + 1 := by omega
      clear hn3 hl3
      have HBI := Lib.hid (bit_any (.slice a n c) n V j w3 (by omega) hj (hs.below HNL.out.2.2).byt)
      go_wp2_with fail
      refine HBI.out.mono ?_
      rintro e w4 ⟨bb, hbb, rfl, k4, rfl⟩
      have hb01 : bb = 0 ∨ bb = 1 := by omega
      have HNLd := Lib.hid (HNL.out.on (below_drewN (n := k4) (Below.refl _ _)))
      have HRLd := Lib.hid (HR3.out.drewN k4)
      generalize w3.drewN k4 = wL0 at *
      rcases hb01 with rfl | rfl
      · obtain ⟨aL, haL⟩ : ∃ aL, aL = a4 := ⟨_, rfl⟩
        obtain ⟨cL, hcL⟩ : ∃ cL, cL = c4 := ⟨_, rfl⟩
        obtain ⟨lL, hlL⟩ : ∃ lL, lL = l3 := ⟨_, rfl⟩
        obtain ⟨LL, hLL⟩ : ∃ LL, LL = L3 := ⟨_, rfl⟩
        obtain ⟨wL, hwL⟩ : ∃ wL, wL = wL0 := ⟨_, rfl⟩
        rw [← haL, ← hcL, ← hlL] at HNEL HNLd ⊢
        rw [← hLL, ← hwL] at HNLd
        rw [← hwL] at HRLd ⊢
        have hlLb : lL ≤ l + 2 := by omega
        clear haL hcL hLL hwL hlL HNL HR3
        have HNL := HNLd
        have HRL := HRLd
        -- the order, and what is taken away
        have HORD := Lib.hid (order_any (.slice aL lL cL) (.slice b m d) lL m LL U wL HNL.out.1 (ht.below (HNL.out.2.2)) (by omega) (by omega))
        obtain ⟨sg, hsg⟩ : ∃ sg, sg = sgn3 LL U := ⟨_, rfl⟩
        rw [← hsg] at HORD
        clear hsg
        go_wp2_with fail
        refine HORD.out.mono ?_
        rintro e wO ⟨rfl, hbO⟩
        have HBO := Lib.hid hbO
        clear hbO
        by_cases hge : 0 ≤ sg
        · have HLS := Lib.hid (less_any (.slice aL lL cL) (.slice b m d) lL m LL U wO (HNL.out.1.below HBO.out).byt ((ht.below HNL.out.2.2).below HBO.out).byt (by omega) (by omega))
          go_wp2_with fail
          refine HLS.out.mono ?_
          rintro e w6 ⟨s6, l6, L6, rfl, hl6, hn6⟩
          obtain ⟨a6, c6, rfl⟩ := hn6.1.shape
          have HR6 := Lib.hid ((HRL.out.below HBO.out HRL.out.lt).below hn6.2.2 (HRL.out.below HBO.out HRL.out.lt).lt)
          have hsz := HBO.out.size
          have hgl := HRL.out.lt
          have HNE6 := Lib.hid (show ∀ ad k c', Value.slice a6 l6 c6 = .slice (some ad) k c' → 0 < l6 → ad.block ≠ g from fun ad k c' e h0 => by
            have h1 := hn6.2.1 ad k c' e h0
            omega)
          have HNL6 := Lib.hid (hn6.from (w0 := w) (HNL.out.2.2.trans (HBO.out.mono HNL.out.2.2.size)))
          clear hn6 hsz hgl
          have c0 := HR6.out.cell (i := n - 1 - q) (by omega)
          have f0 := HR6.out.frozen (n - 1 - q)
          have hor := or_u8 (D (n - 1 - q)) p (HD.out _ (by omega)) hp
          obtain ⟨v, hv⟩ : ∃ v, v = D (n - 1 - q) ||| p := ⟨_, rfl⟩
          have hv2 : v < 256 := by rw [hv]; exact Nat.or_lt_two_pow (n := 8) (HD.out _ (by omega)) hp
          rw [← hv] at hor
          have HV2 := Lib.hid hv2
          clear hv hv2
          go_wp2
          go_roundw
          case rel =>
            refine ⟨j, l6, L6, fun x => if x = n - 1 - q then v else D x, a6, c6, rfl, by go_num, by omega, by omega, (HR6.out.set (n - 1 - q) _).congr (fun x hx => ?_), Lib.hid (fun x hx => ?_), Lib.hid (HNL6.out.put (by have := HG.out; omega) HNE6.out _), HNE6⟩
            · show (if _ then _ else _) = _
              by_cases e : x = n - 1 - q
              · rw [if_pos e]; simp [e]
              · rw [if_neg e]; simp [e]
            · show (if _ then _ else _) < 256
              split
              · exact HV2.out
              · exact HD.out x hx
          case measure => simp [intOf]
        · have HRO := Lib.hid (HRL.out.below HBO.out HRL.out.lt)
          go_wp2
          go_roundw
          case rel => exact ⟨j, lL, LL, D, aL, cL, rfl, by go_num, by omega, by omega, HRO.out, HD, Lib.hid (HNL.out.on HBO.out), HNEL⟩
          case measure => simp [intOf]
      · have HBY : Hid (∀ W : World, BytAt (W.alloc (.cells #[.int .u8 1] 5)) (.slice (some ⟨W.heap.size, 0, none⟩) 1 1) 1 1) := Lib.hid (fun W => ⟨by decide, .inr ⟨by decide, W.heap.size, 0, 1, rfl, Nat.le_refl _, by simp, fun i hi => by
          obtain rfl : i = 0 := by omega
          exact (cell_of_row _ _ 0 _ _ (0, 0) (heap_alloc_new W (.cells #[.int .u8 1] 5))).trans rfl⟩⟩)
        have HS1 := Lib.hid (sum_any (.slice a4 l3 c4) _ l3 1 L3 1 _ (HNLd.out.1.below (balloc wL0 (.cells #[.int .u8 1] 5))).byt (HBY.out wL0) (by omega) (by omega))
        go_wp2_with fail
        refine HS1.out.mono ?_
        rintro e wL ⟨sL, lL, LL, rfl, hlL, hnL⟩
        obtain ⟨aL, cL, rfl⟩ := hnL.1.shape
        have hbA := (balloc wL0 (.cells #[.int .u8 1] 5)).trans (hnL.2.2.mono (by simp))
        have HRL := Lib.hid (HRLd.out.below hbA HRLd.out.lt)
        have HNEL' := Lib.hid (show ∀ ad k c', Value.slice aL lL cL = .slice (some ad) k c' → 0 < lL → ad.block ≠ g from fun ad k c' e h0 => by
          have h1 := hnL.2.1 ad k c' e h0
          have h2 := HRLd.out.lt
          simp at h1
          omega)
        have HNL' := Lib.hid (hnL.from (w0 := w) (HNLd.out.2.2.trans ((balloc wL0 (.cells #[.int .u8 1] 5)).mono HNLd.out.2.2.size)))
        have hlLb : lL ≤ l + 2 := by omega
        clear hnL hlL hbA HNL HNEL
        have HNL := HNL'
        have HNEL := HNEL'
        -- the order, and what is taken away
        have HORD := Lib.hid (order_any (.slice aL lL cL) (.slice b m d) lL m LL U wL HNL.out.1 (ht.below (HNL.out.2.2)) (by omega) (by omega))
        obtain ⟨sg, hsg⟩ : ∃ sg, sg = sgn3 LL U := ⟨_, rfl⟩
        rw [← hsg] at HORD
        clear hsg
        go_wp2_with fail
        refine HORD.out.mono ?_
        rintro e wO ⟨rfl, hbO⟩
        have HBO := Lib.hid hbO
        clear hbO
        by_cases hge : 0 ≤ sg
        · have HLS := Lib.hid (less_any (.slice aL lL cL) (.slice b m d) lL m LL U wO (HNL.out.1.below HBO.out).byt ((ht.below HNL.out.2.2).below HBO.out).byt (by omega) (by omega))
          go_wp2_with fail
          refine HLS.out.mono ?_
          rintro e w6 ⟨s6, l6, L6, rfl, hl6, hn6⟩
          obtain ⟨a6, c6, rfl⟩ := hn6.1.shape
          have HR6 := Lib.hid ((HRL.out.below HBO.out HRL.out.lt).below hn6.2.2 (HRL.out.below HBO.out HRL.out.lt).lt)
          have hsz := HBO.out.size
          have hgl := HRL.out.lt
          have HNE6 := Lib.hid (show ∀ ad k c', Value.slice a6 l6 c6 = .slice (some ad) k c' → 0 < l6 → ad.block ≠ g from fun ad k c' e h0 => by
            have h1 := hn6.2.1 ad k c' e h0
            omega)
          have HNL6 := Lib.hid (hn6.from (w0 := w) (HNL.out.2.2.trans (HBO.out.mono HNL.out.2.2.size)))
          clear hn6 hsz hgl
          have c0 := HR6.out.cell (i := n - 1 - q) (by omega)
          have f0 := HR6.out.frozen (n - 1 - q)
          have hor := or_u8 (D (n - 1 - q)) p (HD.out _ (by omega)) hp
          obtain ⟨v, hv⟩ : ∃ v, v = D (n - 1 - q) ||| p := ⟨_, rfl⟩
          have hv2 : v < 256 := by rw [hv]; exact Nat.or_lt_two_pow (n := 8) (HD.out _ (by omega)) hp
          rw [← hv] at hor
          have HV2 := Lib.hid hv2
          clear hv hv2
          go_wp2
          go_roundw
          case rel =>
            refine ⟨j, l6, L6, fun x => if x = n - 1 - q then v else D x, a6, c6, rfl, by go_num, by omega, by omega, (HR6.out.set (n - 1 - q) _).congr (fun x hx => ?_), Lib.hid (fun x hx => ?_), Lib.hid (HNL6.out.put (by have := HG.out; omega) HNE6.out _), HNE6⟩
            · show (if _ then _ else _) = _
              by_cases e : x = n - 1 - q
              · rw [if_pos e]; simp [e]
              · rw [if_neg e]; simp [e]
            · show (if _ then _ else _) < 256
              split
              · exact HV2.out
              · exact HD.out x hx
          case measure => simp [intOf]
        · have HRO := Lib.hid (HRL.out.below HBO.out HRL.out.lt)
          go_wp2
          go_roundw
          case rel => exact ⟨j, lL, LL, D, aL, cL, rfl, by go_num, by omega, by omega, HRO.out, HD, Lib.hid (HNL.out.on HBO.out), HNEL⟩
          case measure => simp [intOf]
    · obtain rfl : k = 0 := by omega
      obtain ⟨W, hW⟩ := byt_of_row hr HD.out
      have HCU := Lib.hid (cut_any _ n W wr hW (by omega))
      clear hW hr
      go_wp2_with fail
      refine HCU.out.mono ?_
      rintro e w5 ⟨s5, l5, rfl, hl5, hn5⟩
      have HL := Lib.hid hl5; have HN5 := Lib.hid hn5
      clear hl5 hn5
      go_wp2
      go_ret2
      exact ⟨_, _, l5, l, W, L, rfl, HL.out, by have := HNN.out; omega, HN5.out.1, HN3.out.1.below HN5.out.2.2, HN3.out.2.2.trans (HN5.out.2.2.mono HN3.out.2.2.size)⟩
end Go.Proofs.YtgohhebffcldeaaGreatDoor
