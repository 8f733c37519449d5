import Derived.Test.YtpcleebnfgnhdaaGreatDoorGz7
import Derived.Test.YtpcleebnfgnhdaaGreatDoorGz6
/- Walks: spec.Int.Sign, order, Int.Cmp. Walk: spec.Int.Cmp. -/
set_option linter.unusedVariables false
set_option linter.unusedSimpArgs false
namespace Go.Proofs.YtpcleebnfgnhdaaGreatDoor
open Go.RowKit
open Num

/-- the sign of a signed magnitude -/
def sgI (n : Bool) (V : Nat) : Int := if V = 0 then 0 else if n then -1 else 1

theorem order_len {n m V U : Nat} (h1 : Nb n V) (h2 : Nb m U) (h : n < m) : V < U := by
  have h3 := h2.2 (by omega)
  have h4 : 2 ^ (8 * n) ≤ 2 ^ (8 * (m - 1)) := Nat.pow_le_pow_right (by omega) (by omega)
  have h5 := h1.1
  omega
theorem dg_split (V i : Nat) : V / 2 ^ (8 * i) = dg V i + 256 * (V / 2 ^ (8 * (i + 1))) := by
  unfold dg
  rw [show 8 * (i + 1) = 8 * i + 8 by omega, Nat.pow_add, ← Nat.div_div_eq_div_mul]
  omega
theorem icmp_cases (xn yn : Bool) (X Y : Nat) (hx : xn = true → 0 < X) (hy : yn = true → 0 < Y) :
    icmp (sI xn X) (sI yn Y) = if sgI xn X = sgI yn Y then (if xn then sgn3 Y X else sgn3 X Y) else if sgI xn X < sgI yn Y then -1 else 1 := by
  rw [icmp_signed xn yn X Y hx hy]
  have hs : sgn3 Y X = -sgn3 X Y := by unfold sgn3; split <;> split <;> first | rfl | omega
  rw [hs]
  unfold sgI
  cases xn <;> cases yn
  · by_cases h1 : X = 0 <;> by_cases h2 : Y = 0 <;> simp [h1, h2, sgn3]
    all_goals omega
  · have := hy rfl
    by_cases h1 : X = 0
    · simp [h1]; omega
    · simp [h1]; omega
  · have := hx rfl
    by_cases h2 : Y = 0
    · simp [h2]; omega
    · simp [h2]; omega
  · have := hx rfl
    have := hy rfl
    rw [if_neg (show X ≠ 0 by omega), if_neg (show Y ≠ 0 by omega)]
    simp

theorem SpecSign_any (neg : Bool) (s : Value) (n V : Nat) (w : World) (h : MagAt w s n V) :
    Calls Tryz.prog 62 #[.agg #[.bool neg, s]] w fun e w' => e = .returned (.int .i64 (sgI neg V)) ∧ Below w.heap.size w w' := by
  obtain ⟨a, c, rfl⟩ := h.shape
  have hz := h.1.zero_iff
  have hb0 : Below w.heap.size w (w.alloc (.cells #[.bool neg, .slice a n c] 84)) := (Below.refl _ _).alloc (Nat.le_refl _) _
  have HZ := Lib.hid (Zero_any neg (.slice a n c) n V _ (h.below hb0))
  have hq := heap_alloc_new w (.cells #[.bool neg, .slice a n c] 84)
  have hl : w.heap.size < (w.alloc (.cells #[.bool neg, .slice a n c] 84)).heap.size := by simp
  clear h
  by_cases h0 : n = 0
  · have hV : sgI neg V = 0 := by unfold sgI; rw [if_pos (hz.1 h0)]
    have hd : (n == 0) = true := by simp [h0]
    rw [hd] at HZ
    rw [hV]
    clear h0 hz hV hd
    go_enter Tryz.func62, Tryz.ntmps62
    go_wp2_with fail
    refine HZ.out.mono ?_
    rintro e w2 ⟨rfl, rfl⟩
    go_wp2
    go_ret
    exact ⟨rfl, hb0.alloc (by simp) _⟩
  · have hV : sgI neg V = if neg then -1 else 1 := by unfold sgI; rw [if_neg (fun h => h0 (hz.2 h))]
    have hd : (n == 0) = false := by simp [h0]
    rw [hd] at HZ
    rw [hV]
    have hq2 := ((Below.refl _ _).alloc (Nat.le_refl _) (.cells #[.bool neg, .slice a n c] 84) |>.block _ hl).trans hq
    have x0 := (cell_of_row _ _ 0 _ _ (0, 0) hq2).trans rfl
    clear h0 hz hV hd
    cases neg
    all_goals (
      go_enter Tryz.func62, Tryz.ntmps62
      go_wp2_with fail
      refine HZ.out.mono ?_
      rintro e w2 ⟨rfl, rfl⟩
      go_wp2
      go_ret
      exact ⟨rfl, hb0.alloc (by simp) _⟩)

theorem order_any (s t : Value) (n m V U : Nat) (w : World) (hs : MagAt w s n V) (ht : MagAt w t m U) (hn : n ≤ 16777216) (hm : m ≤ 16777216) :
    Calls Tryz.prog 63 #[s, t] w fun e w' => e = .returned (.int .i64 (sgn3 V U)) ∧ Below w.heap.size w w' := by
  by_cases hnm : n = m
  · subst hnm
    rcases hs.2 with ⟨rfl, a, c, rfl⟩ | ⟨h0, g, p, c, rfl, hnc, hg, hc⟩
    · rcases ht.2 with ⟨_, a2, c2, rfl⟩ | ⟨h, _⟩
      · have hv : sgn3 V U = 0 := by
          have h1 := hs.1.zero_iff.1 rfl
          have h2 := ht.1.zero_iff.1 rfl
          rw [h1, h2]; rfl
        rw [hv]
        clear hs ht hv
        go_enter Tryz.func63, Tryz.ntmps63
        go_wp2_with fail
        refine wp_loop_rounds 1 ?_
        rw [rounds_succ]
        go_wp2
        go_ret
        exact ⟨rfl, Below.refl _ _⟩
      · omega
    · rcases ht.2 with ⟨h, _⟩ | ⟨_, g2, p2, c2, rfl, hnc2, hg2, hc2⟩
      · omega
      · have HC := Lib.hid hc
        have HC2 := Lib.hid hc2
        have HV : Hid (V / 2 ^ (8 * n) = U / 2 ^ (8 * n)) := Lib.hid (by rw [Nat.div_eq_of_lt hs.1.1, Nat.div_eq_of_lt ht.1.1])
        clear hs ht hc hc2
        go_enter Tryz.func63, Tryz.ntmps63
        go_wp2_with fail
        go_loopw [5] (fun i wr => ∃ k q : Nat, k ≤ n ∧ i = .int .i64 k ∧ wr = w.drewN q ∧ Hid (V / 2 ^ (8 * (n - k)) = U / 2 ^ (8 * (n - k)))) (fun i _ => n - (intOf i).toNat)
        case atStart => exact ⟨0, 0, by omega, by go_num, rfl, HV⟩
        case round =>
          obtain ⟨k, q, hk, rfl, rfl, HE⟩ := hrel
          by_cases hkn : k < n
          · have e1 := HC.out k hkn
            have e2 := HC2.out k hkn
            have hsv := dg_split V (n - 1 - k)
            have hsu := dg_split U (n - 1 - k)
            rw [show n - 1 - k + 1 = n - k by omega, HE.out] at hsv
            rw [show n - 1 - k + 1 = n - k by omega] at hsu
            have HSV := Lib.hid hsv; have HSU := Lib.hid hsu
            clear hsv hsu
            obtain ⟨dv, hdv⟩ : ∃ dv, dv = dg V (n - 1 - k) := ⟨_, rfl⟩
            obtain ⟨du, hdu⟩ : ∃ du, du = dg U (n - 1 - k) := ⟨_, rfl⟩
            rw [← hdv] at e1 HSV
            rw [← hdu] at e2 HSU
            clear hdv hdu
            by_cases hd : dv = du
            · have hb : ((dv : Int) == (du : Int)) = true := by rw [hd]; simp
              have HD := Lib.hid hd
              clear hd
              go_wp2_with fail
              go_quiet (fail)
              go_wp2
              go_roundw
              case rel => exact ⟨k + 1, _, by omega, by go_num, rfl, Lib.hid (by have h1 := HSV.out; have h2 := HSU.out; rw [show n - (k + 1) = n - 1 - k by omega, h1, h2, HD.out])⟩
              case measure => simp [intOf]; omega
            · have hb : ((dv : Int) == (du : Int)) = false := by rw [beq_eq_false_iff_ne]; omega
              have hlt : decide ((dv : Int) < (du : Int)) = decide (dv < du) := by simp
              by_cases hl : dv < du
              · have hlt2 : (dv : Int) < (du : Int) := by omega
                have hv : sgn3 V U = -1 := by
                  have h1 := HSV.out
                  have h2 := HSU.out
                  have : V / 2 ^ (8 * (n - 1 - k)) < U / 2 ^ (8 * (n - 1 - k)) := by omega
                  unfold sgn3
                  rw [if_pos (Nat.lt_of_div_lt_div this)]
                have HVV := Lib.hid hv
                clear hv hl hd HSV HSU
                go_wp2_with fail
                go_quiet (fail)
                go_wp2_with fail
                go_quiet (fail)
                go_wp2
                go_ret
                exact ⟨by rw [HVV.out]; rfl, below_drewN (below_drewN (below_drewN (Below.refl _ _)))⟩
              · have hlt2 : ¬ (dv : Int) < (du : Int) := by omega
                have hv : sgn3 V U = 1 := by
                  have h1 := HSV.out
                  have h2 := HSU.out
                  have h3 : U / 2 ^ (8 * (n - 1 - k)) < V / 2 ^ (8 * (n - 1 - k)) := by omega
                  have h4 := Nat.lt_of_div_lt_div h3
                  unfold sgn3
                  rw [if_neg (by omega), if_pos h4]
                have HVV := Lib.hid hv
                clear hv hl hd HSV HSU
                go_wp2_with fail
                go_quiet (fail)
                go_wp2_with fail
                go_quiet (fail)
                go_wp2
                go_ret
                exact ⟨by rw [HVV.out]; rfl, below_drewN (below_drewN (below_drewN (Below.refl _ _)))⟩
          · obtain rfl : k = n := by omega
            have hv : sgn3 V U = 0 := by
              have h := HE.out
              simp at h
              rw [h]
              unfold sgn3
              simp
            have HVV := Lib.hid hv
            clear hv
            go_wp2
            go_ret
            exact ⟨by rw [HVV.out]; rfl, below_drewN (Below.refl _ _)⟩
  · obtain ⟨a, c, rfl⟩ := hs.shape
    obtain ⟨b, d, rfl⟩ := ht.shape
    have hb : ((n : Int) == (m : Int)) = false := by rw [beq_eq_false_iff_ne]; omega
    by_cases hl : n < m
    · have hlt2 : (n : Int) < (m : Int) := by omega
      have hv : sgn3 V U = -1 := by unfold sgn3; rw [if_pos (order_len hs.1 ht.1 hl)]
      rw [hv]
      clear hs ht hl hnm hv
      go_enter Tryz.func63, Tryz.ntmps63
      go_wp2
      go_ret
      exact ⟨rfl, Below.refl _ _⟩
    · have hlt2 : ¬ (n : Int) < (m : Int) := by omega
      have hv : sgn3 V U = 1 := by
        have := order_len ht.1 hs.1 (by omega)
        unfold sgn3
        rw [if_neg (by omega), if_pos this]
      rw [hv]
      clear hs ht hl hnm hv
      go_enter Tryz.func63, Tryz.ntmps63
      go_wp2
      go_ret
      exact ⟨rfl, Below.refl _ _⟩
end Go.Proofs.YtpcleebnfgnhdaaGreatDoor

set_option linter.unusedVariables false
set_option linter.unusedSimpArgs false
namespace Go.Proofs.YtpcleebnfgnhdaaGreatDoor
open Go.RowKit
open Num

set_option maxRecDepth 100000 in
set_option maxHeartbeats 8000000 in
theorem SpecCmp_any (xn yn : Bool) (s t : Value) (n m X Y : Nat) (w : World) (hs : MagAt w s n X) (ht : MagAt w t m Y) (hn : n ≤ 16777216) (hm : m ≤ 16777216) (hx : xn = true → 0 < X) (hy : yn = true → 0 < Y) :
    Calls Tryz.prog 35 #[.agg #[.bool xn, s], .agg #[.bool yn, t]] w fun e w' => e = .returned (.int .i64 (icmp (sI xn X) (sI yn Y))) ∧ Below w.heap.size w w' := by
  obtain ⟨a, c, rfl⟩ := hs.shape
  obtain ⟨b, d, rfl⟩ := ht.shape
  obtain ⟨w1, hw1⟩ : ∃ w1, w1 = (w.alloc (.cells #[.bool xn, .slice a n c] 84)).alloc (.cells #[.bool yn, .slice b m d] 84) := ⟨_, rfl⟩
  have hb1 : Below w.heap.size w w1 := by rw [hw1]; exact ((Below.refl _ _).alloc (Nat.le_refl _) _).alloc (by simp) _
  have r1 : w1.heap[w.heap.size]? = some (.cells #[.bool xn, .slice a n c] 84 (0, 0)) := by rw [hw1]; exact heap2_0 _ _ _
  have r2 : w1.heap[w.heap.size + 1]? = some (.cells #[.bool yn, .slice b m d] 84 (0, 0)) := by rw [hw1]; exact heap2_1 _ _ _
  have l1 := (Array.getElem?_eq_some_iff.1 r1).1
  have l2 := (Array.getElem?_eq_some_iff.1 r2).1
  have HSX := Lib.hid (fun (W : World) (hb : Below w1.heap.size w1 W) => SpecSign_any xn (.slice a n c) n X W ((hs.below hb1).below hb))
  have HSY := Lib.hid (fun (W : World) (hb : Below w1.heap.size w1 W) => SpecSign_any yn (.slice b m d) m Y W ((ht.below hb1).below hb))
  have HO1 := Lib.hid (fun (W : World) (hb : Below w1.heap.size w1 W) => order_any (.slice a n c) (.slice b m d) n m X Y W ((hs.below hb1).below hb) ((ht.below hb1).below hb) hn hm)
  have HO2 := Lib.hid (fun (W : World) (hb : Below w1.heap.size w1 W) => order_any (.slice b m d) (.slice a n c) m n Y X W ((ht.below hb1).below hb) ((hs.below hb1).below hb) hm hn)
  have HP := Lib.hid (fun (W : World) (hb : Below w1.heap.size w1 W) => (show W.cell? ⟨w.heap.size, 0, none⟩ = some (.bool xn) ∧ W.cell? ⟨w.heap.size, 1, none⟩ = some (.slice a n c) ∧ W.cell? ⟨w.heap.size + 1, 0, none⟩ = some (.bool yn) ∧ W.cell? ⟨w.heap.size + 1, 1, none⟩ = some (.slice b m d) from
    ⟨(cell_of_row W _ 0 _ _ (0, 0) ((hb.block _ l1).trans r1)).trans rfl, (cell_of_row W _ 1 _ _ (0, 0) ((hb.block _ l1).trans r1)).trans rfl, (cell_of_row W _ 0 _ _ (0, 0) ((hb.block _ l2).trans r2)).trans rfl, (cell_of_row W _ 1 _ _ (0, 0) ((hb.block _ l2).trans r2)).trans rfl⟩))
  have HB1 := Lib.hid hb1; have HW1 := Lib.hid hw1
  rw [icmp_cases xn yn X Y hx hy]
  obtain ⟨sx, hsx⟩ : ∃ sx, sx = sgI xn X := ⟨_, rfl⟩
  obtain ⟨sy, hsy⟩ : ∃ sy, sy = sgI yn Y := ⟨_, rfl⟩
  rw [← hsx] at HSX; rw [← hsy] at HSY
  rw [← hsx, ← hsy]
  clear hs ht hb1 hw1 r1 r2 l1 l2 hx hy hsx hsy
  obtain ⟨x0, x1, y0, y1⟩ := HP.out w1.drew (Below.refl _ _).drew
  by_cases hse : sx = sy
  · have hd : (sx == sy) = true := by simpa using hse
    rw [if_pos hse]
    clear hse
    cases xn
    · rw [if_neg (by decide)]
      go_enter Tryz.func35, Tryz.ntmps35
      go_wp2_with fail
      rw [← HW1.out]
      go_region_law (first | (go_simp; go_at_call 62; refine (HSX.out _ (Below.refl _ _).drew).mono ?_; rintro e w2 ⟨rfl, hb2⟩; have hb2u := below_undrew hb2; obtain ⟨p0, p1, q0, q1⟩ := HP.out w2 hb2u; have HB2 := Lib.hid hb2u; clear hb2u; clear hb2) | (go_simp; go_at_call 62; refine (HSY.out _ HB2.out).mono ?_; rintro e w3 ⟨rfl, hb3⟩; have HB3 := Lib.hid (HB2.out.trans (hb3.mono HB2.out.size)); clear hb3))
      all_goals (
        obtain ⟨z0, z1, z2, z3⟩ := HP.out w3 HB3.out
        go_wp2_with fail
        refine (HO1.out _ HB3.out).mono ?_
        rintro e w4 ⟨rfl, hb4⟩
        go_wp2
        go_ret
        exact ⟨rfl, HB1.out.trans ((HB3.out.trans (hb4.mono HB3.out.size)).mono HB1.out.size)⟩)
    · rw [if_pos rfl]
      go_enter Tryz.func35, Tryz.ntmps35
      go_wp2_with fail
      rw [← HW1.out]
      go_region_law (first | (go_simp; go_at_call 62; refine (HSX.out _ (Below.refl _ _).drew).mono ?_; rintro e w2 ⟨rfl, hb2⟩; have hb2u := below_undrew hb2; obtain ⟨p0, p1, q0, q1⟩ := HP.out w2 hb2u; have HB2 := Lib.hid hb2u; clear hb2u; clear hb2) | (go_simp; go_at_call 62; refine (HSY.out _ HB2.out).mono ?_; rintro e w3 ⟨rfl, hb3⟩; have HB3 := Lib.hid (HB2.out.trans (hb3.mono HB2.out.size)); clear hb3))
      all_goals (
        obtain ⟨z0, z1, z2, z3⟩ := HP.out w3 HB3.out
        go_wp2_with fail
        refine (HO2.out _ HB3.out).mono ?_
        rintro e w4 ⟨rfl, hb4⟩
        go_wp2
        go_ret
        exact ⟨rfl, HB1.out.trans ((HB3.out.trans (hb4.mono HB3.out.size)).mono HB1.out.size)⟩)
  · have hd : (sx == sy) = false := by simpa using hse
    rw [if_neg hse]
    clear hse
    by_cases hlt : sx < sy
    · rw [if_pos hlt]
      go_enter Tryz.func35, Tryz.ntmps35
      go_wp2_with fail
      rw [← HW1.out]
      go_region_law (first | (go_simp; go_at_call 62; refine (HSX.out _ (Below.refl _ _).drew).mono ?_; rintro e w2 ⟨rfl, hb2⟩; have hb2u := below_undrew hb2; obtain ⟨p0, p1, q0, q1⟩ := HP.out w2 hb2u; have HB2 := Lib.hid hb2u; clear hb2u; clear hb2) | (go_simp; go_at_call 62; refine (HSY.out _ HB2.out).mono ?_; rintro e w3 ⟨rfl, hb3⟩; have HB3 := Lib.hid (HB2.out.trans (hb3.mono HB2.out.size)); clear hb3))
      all_goals (
        obtain ⟨z0, z1, z2, z3⟩ := HP.out w3.drew HB3.out.drew
        go_wp2_with fail
        go_region_law (first | (go_simp; go_at_call 62; refine (HSX.out _ HB3.out.drew).mono ?_; rintro e w4 ⟨rfl, hb4⟩; have hb4u := HB3.out.trans ((below_undrew hb4).mono HB3.out.size); obtain ⟨s0, s1, u0, u1⟩ := HP.out w4 hb4u; have HB4 := Lib.hid hb4u; clear hb4u hb4) | (go_simp; go_at_call 62; refine (HSY.out _ HB4.out).mono ?_; rintro e w5 ⟨rfl, hb5⟩; have HB5 := Lib.hid (HB4.out.trans (hb5.mono HB4.out.size)); clear hb5)))
      all_goals (
        go_wp2
        go_ret
        exact ⟨rfl, HB1.out.trans (HB5.out.mono HB1.out.size)⟩)
    · rw [if_neg hlt]
      go_enter Tryz.func35, Tryz.ntmps35
      go_wp2_with fail
      rw [← HW1.out]
      go_region_law (first | (go_simp; go_at_call 62; refine (HSX.out _ (Below.refl _ _).drew).mono ?_; rintro e w2 ⟨rfl, hb2⟩; have hb2u := below_undrew hb2; obtain ⟨p0, p1, q0, q1⟩ := HP.out w2 hb2u; have HB2 := Lib.hid hb2u; clear hb2u; clear hb2) | (go_simp; go_at_call 62; refine (HSY.out _ HB2.out).mono ?_; rintro e w3 ⟨rfl, hb3⟩; have HB3 := Lib.hid (HB2.out.trans (hb3.mono HB2.out.size)); clear hb3))
      all_goals (
        obtain ⟨z0, z1, z2, z3⟩ := HP.out w3.drew HB3.out.drew
        go_wp2_with fail
        go_region_law (first | (go_simp; go_at_call 62; refine (HSX.out _ HB3.out.drew).mono ?_; rintro e w4 ⟨rfl, hb4⟩; have hb4u := HB3.out.trans ((below_undrew hb4).mono HB3.out.size); obtain ⟨s0, s1, u0, u1⟩ := HP.out w4 hb4u; have HB4 := Lib.hid hb4u; clear hb4u hb4) | (go_simp; go_at_call 62; refine (HSY.out _ HB4.out).mono ?_; rintro e w5 ⟨rfl, hb5⟩; have HB5 := Lib.hid (HB4.out.trans (hb5.mono HB4.out.size)); clear hb5)))
      all_goals (
        go_wp2
        go_ret
        exact ⟨rfl, HB1.out.trans (HB5.out.mono HB1.out.size)⟩)
end Go.Proofs.YtpcleebnfgnhdaaGreatDoor
