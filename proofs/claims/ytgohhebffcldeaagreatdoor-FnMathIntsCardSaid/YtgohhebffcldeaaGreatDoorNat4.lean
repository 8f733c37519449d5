/- Walks: nat.bitLen, nat.cmp. -/
import Derived.Test.YtgohhebffcldeaaGreatDoorNat3
set_option linter.unusedVariables false
set_option linter.unusedSimpArgs false
namespace Go.Proofs.YtgohhebffcldeaaGreatDoor
open Go.RowKit
open Num

theorem smear (t b : Nat) (d : Nat) (h1 : 2 ^ (b - 1) ≤ t) (h2 : t < 2 ^ b) (hb : b ≤ 64) :
    ∃ t' : Nat, bits .or .u64 (t : Int) ((t : Int) / (d : Int)) = (t' : Int) ∧ 2 ^ (b - 1) ≤ t' ∧ t' < 2 ^ b := by
  have h64 : (2 : Nat) ^ b ≤ 2 ^ 64 := Nat.pow_le_pow_right (by omega) hb
  have hq : t / d ≤ t := Nat.div_le_self _ _
  refine ⟨t ||| t / d, ?_, Nat.le_trans h1 Nat.left_le_or, Nat.or_lt_two_pow h2 (by omega)⟩
  rw [show ((t : Int) / (d : Int)) = ((t / d : Nat) : Int) by simp]
  exact u64_or_nat t (t / d) (by omega) (by omega)
theorem smear32 (t b : Nat) (h1 : 2 ^ (b - 1) ≤ t) (h2 : t < 2 ^ b) (hb : b ≤ 64) :
    ∃ t' : Nat, bits .or .u64 (t : Int) ((t : Int) / 65536 / 65536) = (t' : Int) ∧ 2 ^ (b - 1) ≤ t' ∧ t' < 2 ^ b := by
  have h := smear t b (65536 * 65536) h1 h2 hb
  rw [show ((t : Int) / ((65536 * 65536 : Nat) : Int)) = (t : Int) / 65536 / 65536 by omega] at h
  exact h

theorem bitLen_some (g o c n V : Nat) (w : World) (h0 : 0 < n) (hn : n ≤ 2147483648) (hN : Nw n V)
    (hc : ∀ i, i < n → w.cell? ⟨g, o + i, none⟩ = some (.int .u64 (wd V i))) :
    Calls Tryz.prog 183 #[.slice (some ⟨g, o, none⟩) n c] w fun e w' => (∃ L : Nat, 1 ≤ L ∧ L ≤ 64 * n ∧ 64 * (n - 1) < L ∧ 2 ^ (L - 1) ≤ V ∧ V < 2 ^ L ∧ e = .returned (.int .i64 L)) ∧ w = w' := by
  have hcell := hc (n - 1) (by omega)
  obtain ⟨t, ht⟩ : ∃ t, t = wd V (n - 1) := ⟨_, rfl⟩
  rw [← ht] at hcell
  have hlt := wd_lt V (n - 1)
  have htop := fun b h1 h2 h3 => top_bounds (b := b) hN.1 h0 h1 h2 h3
  rw [← ht] at hlt htop
  have htne : t ≠ 0 := by
    intro e
    have := lt_of_wd_zero (n := n - 1) (by rw [show n - 1 + 1 = n by omega]; exact hN.1) (by rw [← ht]; exact e)
    have := hN.2 h0
    omega
  have hlt64 : t < 2 ^ 64 := hlt
  obtain ⟨hb1, hb2, hb3⟩ := Lib.bitLenAux_bounds 64 t hlt64 htne
  have hb64 : Lib.bitLenAux 64 t ≤ 64 := Lib.bitLenAux_le 64 t 64 hlt64
  generalize Lib.bitLenAux 64 t = b at *
  have HT := htop b hb2 hb3 hb1
  clear htop
  obtain ⟨t1, e1, g1, l1⟩ := smear t b 2 hb2 hb3 hb64
  obtain ⟨t2, e2, g2, l2⟩ := smear t1 b 4 g1 l1 hb64
  obtain ⟨t3, e3, g3, l3⟩ := smear t2 b 16 g2 l2 hb64
  obtain ⟨t4, e4, g4, l4⟩ := smear t3 b 256 g3 l3 hb64
  obtain ⟨t5, e5, g5, l5⟩ := smear t4 b 65536 g4 l4 hb64
  obtain ⟨t6, e6, g6, l6⟩ := smear32 t5 b g5 l5 hb64
  simp only [Int.cast_ofNat_Int] at e1 e2 e3 e4 e5
  have h64 : (2 : Nat) ^ b ≤ 2 ^ 64 := Nat.pow_le_pow_right (by omega) hb64
  have ht6 : t6 < 18446744073709551616 := by omega
  have ht1 : t1 < 18446744073709551616 := by omega
  have ht2 : t2 < 18446744073709551616 := by omega
  have ht3 : t3 < 18446744073709551616 := by omega
  have ht4 : t4 < 18446744073709551616 := by omega
  have ht5 : t5 < 18446744073709551616 := by omega
  have h6ne : t6 ≠ 0 := by have := Nat.two_pow_pos (b - 1); omega
  obtain ⟨hc1, hc2, hc3⟩ := Lib.bitLenAux_bounds 64 t6 ht6 h6ne
  have hbl : Lib.bitLen t6 = b := bits_uniq hc2 hc3 g6 l6 hc1 hb1
  have HBL := Lib.hid hbl
  have HT' := Lib.hid HT; clear HT
  clear hbl hb2 hb3 g1 g2 g3 g4 g5 g6 l1 l2 l3 l4 l5 l6 hc1 hc2 hc3 h64 htne h6ne hlt64
  have HTT := Lib.hid ht; clear ht
  have HNN := Lib.hid hN; clear hN
  go_enter Tryz.func183, Tryz.ntmps183
  go_wp2_with fail
  refine (Tryz.bits_Len (t6 : Int) _ (by omega) (by omega)).mono ?_
  rw [show ((t6 : Int).toNat) = t6 by omega, HBL.out]
  rintro e w' ⟨rfl, rfl⟩
  go_wp2
  go_ret
  refine ⟨⟨64 * (n - 1) + b, by omega, by omega, by omega, HT'.out.1, HT'.out.2, ?_⟩, rfl⟩
  refine ret_int ?_
  omega


theorem cmp_len (a b : Option Addr) (n m c d : Nat) (w : World) (hnm : n < m ∨ m < n) (hn : n ≤ 2147483648) (hm : m ≤ 2147483648) :
    Calls Tryz.prog 176 #[.slice a n c, .slice b m d] w fun e w' => e = .returned (.int .i64 (if n < m then -1 else 1)) ∧ ∃ k, w' = w.drewN k := by
  have e1 : (((n : Int) != (m : Int))) = true := by simp; omega
  rcases hnm with h | h
  · have e2 : n < m := h
    go_enter Tryz.func176, Tryz.ntmps176
    go_wp2
    go_ret
    exact ⟨by simp [h], 0, rfl⟩
  · have e2 : ¬ n < m := by omega
    have e3 : m < n := h
    go_enter Tryz.func176, Tryz.ntmps176
    go_wp2
    go_ret
    exact ⟨by simp [e2], 0, rfl⟩
theorem cmp_nil (a b : Option Addr) (c d : Nat) (w : World) :
    Calls Tryz.prog 176 #[.slice a 0 c, .slice b 0 d] w fun e w' => e = .returned (.int .i64 0) ∧ ∃ k, w' = w.drewN k := by
  go_enter Tryz.func176, Tryz.ntmps176
  go_wp2
  go_ret
  exact ⟨rfl, 0, rfl⟩
theorem cmp_some (g o c h p d n V U : Nat) (w : World) (h0 : 0 < n) (hn : n ≤ 2147483648) (hV : V < 2 ^ (64 * n)) (hU : U < 2 ^ (64 * n))
    (hc : ∀ i, i < n → w.cell? ⟨g, o + i, none⟩ = some (.int .u64 (wd V i))) (hd : ∀ i, i < n → w.cell? ⟨h, p + i, none⟩ = some (.int .u64 (wd U i))) :
    Calls Tryz.prog 176 #[.slice (some ⟨g, o, none⟩) n c, .slice (some ⟨h, p, none⟩) n d] w fun e w' => e = .returned (.int .i64 (sgn3 V U)) ∧ ∃ k, w' = w.drewN k := by
  have HD := Lib.hid hd; clear hd
  have HC := Lib.hid hc; clear hc
  have en : (((n : Int) == 0)) = false := by simp; omega
  have hVU : V / 2 ^ (64 * n) = U / 2 ^ (64 * n) := by rw [Nat.div_eq_of_lt hV, Nat.div_eq_of_lt hU]
  have HVU := Lib.hid hVU; clear hVU
  go_enter Tryz.func176, Tryz.ntmps176
  go_wp2_with fail
  go_loopw [7] (fun i wr => ∃ k q : Nat, k < n ∧ i = .int .i64 k ∧ wr = w.drewN q ∧ Hid (V / 2 ^ (64 * (k + 1)) = U / 2 ^ (64 * (k + 1)))) (fun i _ => (intOf i).toNat)
  case atStart => exact ⟨n - 1, 0, by omega, by go_num, rfl, by have := HVU.out; show _ = _; rwa [show n - 1 + 1 = n by omega]⟩
  case round =>
    obtain ⟨k, q, hk, rfl, rfl, HE⟩ := hrel
    have hck := HC.out k hk
    have hdk := HD.out k hk
    by_cases hw : wd V k = wd U k
    · have hwi : (((wd V k : Int) == (wd U k : Int))) = true := by rw [hw]; simp
      have hwl : ¬ ((wd V k : Int) < (wd U k : Int)) := by omega
      have hwg : ¬ ((wd U k : Int) < (wd V k : Int)) := by omega
      have HW := Lib.hid hw; clear hw
      by_cases hkz : 0 < k
      · go_wp2_with fail
        go_quiet (fail)
        go_wp2
        go_roundw
        case rel => exact ⟨k - 1, _, by omega, by go_num, rfl, by have := cmp_eq HE.out HW.out; show _ = _; rwa [show k - 1 + 1 = k by omega]⟩
        case measure => simp [intOf]; omega
      · have hk0 : k = 0 := by omega
        subst hk0
        have hck0 : w.cell? ⟨g, o, none⟩ = some (.int .u64 (wd V 0)) := HC.out 0 hk
        have hdk0 : w.cell? ⟨h, p, none⟩ = some (.int .u64 (wd U 0)) := HD.out 0 hk
        have hVU : V = U := by have := cmp_eq HE.out HW.out; simpa using this
        have hs : sgn3 V U = 0 := by rw [hVU]; simp [sgn3]
        have HS := Lib.hid hs; clear hs hVU
        go_wp2_with fail
        go_quiet (fail)
        go_wp2_with fail
        go_quiet (fail)
        go_wp2_with fail
        go_quiet (fail)
        go_wp2
        go_ret
        exact ⟨by rw [HS.out]; rfl, by simp only [World.drewN_drewN]; exact ⟨_, rfl⟩⟩
    · have hwi : (((wd V k : Int) == (wd U k : Int))) = false := by rw [beq_eq_false_iff_ne]; omega
      rcases Nat.lt_or_gt_of_ne hw with hl | hl
      · have hwl : ((wd V k : Int) < (wd U k : Int)) := by omega
        have hs : sgn3 V U = -1 := by have := cmp_lt HE.out hl; unfold sgn3; rw [if_pos this]
        have HS := Lib.hid hs; clear hs hw
        by_cases hkz : 0 < k
        · go_wp2_with fail
          go_quiet (fail)
          go_wp2_with fail
          go_quiet (fail)
          go_wp2
          go_ret
          exact ⟨by rw [HS.out]; rfl, by simp only [World.drewN_drewN]; exact ⟨_, rfl⟩⟩
        · obtain rfl : k = 0 := by omega
          have hck0 : w.cell? ⟨g, o, none⟩ = some (.int .u64 (wd V 0)) := HC.out 0 hk
          have hdk0 : w.cell? ⟨h, p, none⟩ = some (.int .u64 (wd U 0)) := HD.out 0 hk
          go_wp2_with fail
          go_quiet (fail)
          go_wp2_with fail
          go_quiet (fail)
          go_wp2
          go_ret
          exact ⟨by rw [HS.out]; rfl, by simp only [World.drewN_drewN]; exact ⟨_, rfl⟩⟩
      · have hwl : ¬ ((wd V k : Int) < (wd U k : Int)) := by omega
        have hwg : ((wd U k : Int) < (wd V k : Int)) := by omega
        have hs : sgn3 V U = 1 := by have := cmp_lt HE.out.symm hl; unfold sgn3; rw [if_neg (by omega), if_pos this]
        have HS := Lib.hid hs; clear hs hw
        by_cases hkz : 0 < k
        · go_wp2_with fail
          go_quiet (fail)
          go_wp2_with fail
          go_quiet (fail)
          go_wp2_with fail
          go_quiet (fail)
          go_wp2
          go_ret
          exact ⟨by rw [HS.out]; rfl, by simp only [World.drewN_drewN]; exact ⟨_, rfl⟩⟩
        · obtain rfl : k = 0 := by omega
          have hck0 : w.cell? ⟨g, o, none⟩ = some (.int .u64 (wd V 0)) := HC.out 0 hk
          have hdk0 : w.cell? ⟨h, p, none⟩ = some (.int .u64 (wd U 0)) := HD.out 0 hk
          go_wp2_with fail
          go_quiet (fail)
          go_wp2_with fail
          go_quiet (fail)
          go_wp2_with fail
          go_quiet (fail)
          go_wp2
          go_ret
          exact ⟨by rw [HS.out]; rfl, by simp only [World.drewN_drewN]; exact ⟨_, rfl⟩⟩

end Go.Proofs.YtgohhebffcldeaaGreatDoor
