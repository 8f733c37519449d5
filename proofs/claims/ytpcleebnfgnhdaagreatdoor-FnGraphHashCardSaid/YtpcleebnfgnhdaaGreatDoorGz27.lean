import Derived.Test.YtpcleebnfgnhdaaGreatDoorGz6
import Derived.Test.YtpcleebnfgnhdaaGreatDoorGz8
/- Walks: math.IsInf with a sign. Walk: spec.Whole, with its bool. -/
set_option linter.unusedVariables false
set_option linter.unusedSimpArgs false
namespace Go.Proofs.YtpcleebnfgnhdaaGreatDoor
open Go.RowKit
open Num
open Ieee

theorem gt_max_neg (A : Nat) (hA : A < 18446744073709551616) (hg : fneg A = true) (hn : ¬ (fexp A = 2047 ∧ ffrac A ≠ 0)) : (double.order A 9218868437227405311 == some .gt) = false := by
  unfold Format.order
  rw [read_max]
  by_cases hf : fexp A = 2047
  · have h0 : ffrac A = 0 := by
      rcases Nat.eq_zero_or_pos (ffrac A) with h | h
      · exact h
      · exact absurd ⟨hf, by omega⟩ hn
    rw [read_inf A hA hf h0, hg]
    simp [Datum.order]
  · rw [read_double A hA hf, signed_cmp, hg, signed_false, signed_true]
    generalize fman A * 2 ^ _ = a
    generalize 9007199254740991 * 2 ^ _ = b
    have : compare (-((a : Nat) : Int)) ((b : Nat) : Int) ≠ .gt := by
      intro h
      rw [Int.compare_eq_gt] at h
      omega
    simpa using this
theorem gt_max_any (A : Nat) (hA : A < 18446744073709551616) (hn : ¬ (fexp A = 2047 ∧ ffrac A ≠ 0)) : (double.order A 9218868437227405311 == some .gt) = (decide (fexp A = 2047) && !fneg A) := by
  cases h : fneg A
  · have hA2 : A < 9223372036854775808 := by
      unfold fneg at h
      simp at h
      omega
    rw [gt_max A hA2 hn]; simp
  · rw [gt_max_neg A hA h hn]; simp

theorem flip (B : Nat) (hB : B < 18446744073709551616) : Go.Op.negFloat .f64 B = if fneg B then B - 9223372036854775808 else B + 9223372036854775808 := by
  show B ^^^ 2 ^ 63 = _
  have h1 : (B ^^^ 2 ^ 63) / 2 ^ 63 = (B / 2 ^ 63) ^^^ 1 := by rw [Nat.xor_div_two_pow]
  have h2 : (B ^^^ 2 ^ 63) % 2 ^ 63 = B % 2 ^ 63 := by rw [Nat.xor_mod_two_pow]; simp
  generalize B ^^^ 2 ^ 63 = C at *
  have e63 : (2 : Nat) ^ 63 = 9223372036854775808 := by decide
  rw [e63] at h1 h2
  unfold fneg
  have h3 : B / 9223372036854775808 = 0 ∨ B / 9223372036854775808 = 1 := by omega
  rcases h3 with h | h
  · rw [h] at h1 ⊢
    have : (0 : Nat) ^^^ 1 = 1 := by decide
    simp
    omega
  · rw [h] at h1 ⊢
    have : (1 : Nat) ^^^ 1 = 0 := by decide
    simp
    omega
theorem flip_facts (B : Nat) (hB : B < 18446744073709551616) : Go.Op.negFloat .f64 B < 18446744073709551616 ∧ fexp (Go.Op.negFloat .f64 B) = fexp B ∧ ffrac (Go.Op.negFloat .f64 B) = ffrac B ∧ fneg (Go.Op.negFloat .f64 B) = !fneg B := by
  rw [flip B hB]
  have h3 : B / 9223372036854775808 = 0 ∨ B / 9223372036854775808 = 1 := by omega
  unfold fneg fexp ffrac
  rcases h3 with h | h
  · rw [h]
    simp
    omega
  · rw [h]
    simp
    omega

theorem IsInf_pos (B : Nat) (hB : B < 18446744073709551616) (hn : ¬ (fexp B = 2047 ∧ ffrac B ≠ 0)) (w : World) :
    Calls Tryz.prog 126 #[.float .f64 B, .int .i64 1] w fun e w' => e = .returned (.bool (decide (fexp B = 2047) && !fneg B)) ∧ w' = w := by
  have HG := Lib.hid (gt_max_any B hB hn); clear hn
  go_enter Tryz.func126, Tryz.ntmps126
  go_wp2
  go_ret
  exact ⟨ret_bool HG.out, rfl⟩
theorem IsInf_neg (B : Nat) (hB : B < 18446744073709551616) (hn : ¬ (fexp B = 2047 ∧ ffrac B ≠ 0)) (w : World) :
    Calls Tryz.prog 126 #[.float .f64 B, .int .i64 (-1)] w fun e w' => e = .returned (.bool (decide (fexp B = 2047) && fneg B)) ∧ w' = w := by
  obtain ⟨h1, h2, h3, h4⟩ := flip_facts B hB
  have hg := gt_max_any (Go.Op.negFloat .f64 B) h1 (by rw [h2, h3]; exact hn)
  rw [h2, h4, Bool.not_not] at hg
  have HG := Lib.hid hg; clear hg hn h1 h2 h3 h4
  have hu : ∀ W : World, (Go.Op.unary .neg (.float .f64 B)).run Tryz.prog W = .ok (.float .f64 (Go.Op.negFloat .f64 B)) W := fun _ => rfl
  go_enter Tryz.func126, Tryz.ntmps126
  go_wp2
  go_ret
  exact ⟨ret_bool HG.out, rfl⟩
end Go.Proofs.YtpcleebnfgnhdaaGreatDoor

set_option linter.unusedVariables false
set_option linter.unusedSimpArgs false
namespace Go.Proofs.YtpcleebnfgnhdaaGreatDoor
open Go.RowKit
open Num

theorem mask_and (F k : Nat) (hF : F < 18446744073709551616) (hk : k ≤ 63) : bits .and .u64 (F : Int) (IntKind.u64.wrap (IntKind.u64.wrap (2 ^ k) - 1)) = ((F % 2 ^ k : Nat) : Int) := by
  have h1 : 1 ≤ 2 ^ k := Nat.one_le_two_pow
  have h2 : 2 ^ k ≤ 2 ^ 63 := Nat.pow_le_pow_right (by omega) hk
  have e63 : (2 : Nat) ^ 63 = 9223372036854775808 := by decide
  rw [e63] at h2
  have e0 : (2 : Int) ^ k = ((2 ^ k : Nat) : Int) := by simp
  have hm : F % 2 ^ k = F &&& (2 ^ k - 1) := (Nat.and_two_pow_sub_one_eq_mod F k).symm
  rw [hm, e0]
  generalize 2 ^ k = P at *
  have e1 : IntKind.u64.wrap (P : Int) = (P : Int) := by rw [IntKind.wrap_u64]; omega
  have e2 : IntKind.u64.wrap ((P : Int) - 1) = ((P - 1 : Nat) : Int) := by rw [IntKind.wrap_u64]; omega
  rw [e1, e2]
  exact bits_and_u64_nat F (P - 1) hF (by omega)

set_option maxRecDepth 100000 in
theorem Whole_fall (B : Nat) (hB : B < 18446744073709551616) (hf : fexp B ≠ 2047) (w : World) :
    Calls Tryz.prog 127 #[.float .f64 B] w fun e w' => ∃ s m, e = .returned (.tuple #[.agg #[.bool (fneg B && decide (0 < fwhole B)), s], .bool (fall B)]) ∧ m ≤ 4096 ∧ MagAt w' s m (fwhole B) ∧ Below w.heap.size w w' := by
  have HP := Lib.hid (fun W : World => floatParts_any B hB W)
  have hM := fman_lt B
  go_enter Tryz.func127, Tryz.ntmps127
  go_wp2_with fail
  refine (HP.out _).mono ?_
  rintro e w1 ⟨rfl, rfl⟩
  go_wp2_with fail
  refine (bytesOf_any (fman B) (by omega) _).mono ?_
  rintro e w2 ⟨rfl, hby, hb2⟩
  have hb0 : Below w.heap.size w (w.alloc (.cells #[.bool false, .slice none 0 0] 84)) := (Below.refl _ _).alloc (Nat.le_refl _) _
  have hq0 := (hb2.block w.heap.size (by simp)).trans (heap_alloc_new w _)
  have hb3 := hb0.trans (hb2.mono (by simp))
  have hs2 : w.heap.size + 1 ≤ w2.heap.size := by have := hb2.size; simpa using this
  rw [World.size_alloc] at hby
  have HOF := Lib.hid (Of_any (fneg B) _ 8 (fman B) _ hby (by omega))
  have HQ0 := Lib.hid hq0; have HB3 := Lib.hid hb3; have HS2 := Lib.hid hs2
  clear hb0 hq0 hb3 hs2 hby hb2
  go_wp2_with fail
  refine HOF.out.mono ?_
  rintro e w3 ⟨s3, m3, rfl, hm3, hn3⟩
  obtain ⟨a3, c3, rfl⟩ := hn3.1.shape
  obtain ⟨ng, hng⟩ : ∃ ng, ng = (fneg B && decide (0 < fman B)) := ⟨_, rfl⟩
  rw [← hng]
  have HNG := Lib.hid hng
  have HM3 := Lib.hid hn3.1
  have hb4 : Below w.heap.size w w3 := HB3.out.trans (hn3.2.2.mono (by have := HS2.out; omega))
  have hs3 : w.heap.size + 1 ≤ w3.heap.size := Nat.le_trans HS2.out hn3.2.2.size
  have hq3 := (hn3.2.2.block w.heap.size (by have := HS2.out; omega)).trans HQ0.out
  have HB4 := Lib.hid hb4; have HS3 := Lib.hid hs3; have HQ3 := Lib.hid hq3
  clear hng hn3 hb4 hs3 hq3
  have hbw : Below w3.heap.size w3 (w3.alloc (.cells #[.bool ng, .slice a3 m3 c3] 84)) := (Below.refl _ _).alloc (Nat.le_refl _) _
  have hM4 := HM3.out.below hbw
  have hq4 := (hbw.block w.heap.size (by have := HS3.out; omega)).trans HQ3.out
  have hb5 : Below w.heap.size w (w3.alloc (.cells #[.bool ng, .slice a3 m3 c3] 84)) := HB4.out.alloc (by have := HS3.out; omega) _
  have HM4 := Lib.hid hM4; have HQ4 := Lib.hid hq4; have HB5 := Lib.hid hb5
  clear hbw hM4 hq4 hb5
  by_cases hp : 0 ≤ fplace B
  · have hfa : fall B = true := by unfold fall; simp [hp]
    have HFA := Lib.hid hfa
    clear hfa
    obtain ⟨k, hk⟩ := Int.eq_ofNat_of_zero_le hp
    have hkb : k ≤ 971 := by
      have h1 := fexp_lt B
      unfold fplace at hk
      split at hk <;> omega
    have hhi := fplace_hi hp
    have hfw : fwhole B = fman B * 2 ^ k := by unfold fwhole; rw [if_pos hp, hk]; rfl
    have hL := Lsh_any ng (.slice a3 m3 c3) m3 (fman B) k _ HM4.out (by omega) (by omega)
    have HL := Lib.hid hL
    have hd : decide (0 < fman B) = true := by simp; omega
    have hd2 : decide (0 < fwhole B) = true := by rw [hfw]; exact decide_eq_true (Nat.mul_pos (by omega) (Nat.two_pow_pos k))
    have HFW := Lib.hid hfw; have HD := Lib.hid hd; have HD2 := Lib.hid hd2; have HHI := Lib.hid hhi
    clear hL hfw hd hd2 hhi hp
    go_wp2_with fail
    refine HL.out.mono ?_
    rintro e w5 ⟨s5, m5, rfl, hm5, hn5⟩
    obtain ⟨a5, c5, rfl⟩ := hn5.1.shape
    have hR := (hn5.2.2.block w.heap.size (Array.getElem?_eq_some_iff.1 HQ4.out).1).trans HQ4.out
    have hne : ∀ b k c', Value.slice a5 m5 c5 = .slice (some b) k c' → 0 < m5 → b.block ≠ w.heap.size := fun b k c' e h0 => by
      have := hn5.2.1 b k c' e h0
      have h3 := HS3.out
      simp at this
      omega
    have HN := Lib.hid (hn5.from HB5.out)
    have HNE := Lib.hid hne; have HR := Lib.hid hR
    have z0 := (cell_of_row w5 _ 0 _ _ (0, 0) hR).trans rfl
    have z1 := (cell_of_row w5 _ 1 _ _ (0, 0) hR).trans rfl
    have f0 : ∀ i, w5.frozen? ⟨w.heap.size, i, none⟩ = false := fun i => by simp [World.frozen?, hR]
    rw [HD.out]
    clear hn5 hne hR
    go_wp2
    have hW := set1 (i := 1) (x := .slice a5 m5 c5) (set1 (i := 0) (x := .bool ng) HR.out)
    have e0 := (cell_of_row _ _ 0 _ _ (0, 0) hW).trans rfl
    have e1 := (cell_of_row _ _ 1 _ _ (0, 0) hW).trans rfl
    have hfin := (HN.out.put (Nat.le_refl _) (o := 0) HNE.out (.bool ng)).put (Nat.le_refl _) (o := 1) HNE.out (.slice a5 m5 c5)
    rw [← HFW.out] at hfin
    refine bodyPost_ret (v := .tuple #[.agg #[.bool ng, .slice a5 m5 c5], .bool true]) (by simp [results, Tryz.results127, go_sem, e0, e1]) rfl ⟨_, m5, ?_, by omega, hfin.1, hfin.2.2⟩
    rw [HNG.out, HD2.out, HD.out, HFA.out]
  · by_cases hq : fplace B < -63
    · have hfa : fall B = ((fman B : Int) == 0) := by
        have hlt : fman B < 2 ^ (-fplace B).toNat := by
          refine Nat.lt_of_lt_of_le hM ?_
          have : 2 ^ 53 ≤ 2 ^ (-fplace B).toNat := Nat.pow_le_pow_right (by omega) (by omega)
          simpa using this
        unfold fall
        rw [Nat.mod_eq_of_lt hlt, decide_eq_false hp]
        cases fman B <;> simp <;> omega
      have HFA := Lib.hid hfa
      clear hfa
      have hfw : fwhole B = 0 := by
        unfold fwhole
        rw [if_neg hp]
        refine Nat.div_eq_of_lt (Nat.lt_of_lt_of_le hM ?_)
        have : 2 ^ 53 ≤ 2 ^ (-fplace B).toNat := Nat.pow_le_pow_right (by omega) (by omega)
        simpa using this
      have HFW := Lib.hid hfw
      have z0 := (cell_of_row _ _ 0 _ _ (0, 0) HQ4.out).trans rfl
      have z1 := (cell_of_row _ _ 1 _ _ (0, 0) HQ4.out).trans rfl
      have f0 : ∀ i, (w3.alloc (.cells #[.bool ng, .slice a3 m3 c3] 84)).frozen? ⟨w.heap.size, i, none⟩ = false := fun i => by simp [World.frozen?, HQ4.out]
      have hlt : 0 < w3.heap.size := by have := HS3.out; omega
      clear hfw hp
      go_wp2
      have hW := set1 (i := 1) (x := .slice none 0 0) (set1 (i := 0) (x := .bool false) HQ4.out)
      have e0 := (cell_of_row _ _ 0 _ _ (0, 0) hW).trans rfl
      have e1 := (cell_of_row _ _ 1 _ _ (0, 0) hW).trans rfl
      refine bodyPost_ret (v := .tuple #[.agg #[.bool false, .slice none 0 0], .bool ((fman B : Int) == 0)]) (by simp [results, Tryz.results127, go_sem, e0, e1]) rfl ⟨.slice none 0 0, 0, ?_, by omega, ?_, (HB5.out.setCell (by simp) _).setCell (by simp) _⟩
      · rw [HFW.out, HFA.out]; simp
      · rw [HFW.out]; exact ⟨⟨by simp, fun h => absurd h (by omega)⟩, .inl ⟨rfl, _, _, rfl⟩⟩
    · have hsh : (fman B : Int) / 2 ^ (-fplace B).toNat = (fwhole B : Int) := by
        unfold fwhole
        rw [if_neg hp]
        simp
      have hfl : fwhole B < 18446744073709551616 := by
        unfold fwhole
        rw [if_neg hp]
        exact Nat.lt_of_le_of_lt (Nat.div_le_self _ _) (by omega)
      have hs3 := HS3.out
      have HBY := Lib.hid (bytesOf_any (fwhole B) hfl (w3.alloc (.cells #[.bool ng, .slice a3 m3 c3] 84)))
      have HFL := Lib.hid hfl
      have hfa : fall B = (bits .and .u64 (fman B : Int) (IntKind.u64.wrap (IntKind.u64.wrap (2 ^ (-fplace B).toNat) - 1)) == 0) := by
        rw [mask_and (fman B) (-fplace B).toNat (by omega) (by omega)]
        unfold fall
        rw [decide_eq_false hp]
        rw [Bool.false_or]
        generalize fman B % 2 ^ _ = r
        cases r <;> first | rfl | (simp; omega)
      obtain ⟨x, hx⟩ : ∃ x, bits .and .u64 (fman B : Int) (IntKind.u64.wrap (IntKind.u64.wrap (2 ^ (-fplace B).toNat) - 1)) = x := ⟨_, rfl⟩
      rw [hx] at hfa
      have HFA := Lib.hid hfa
      clear hfa
      clear hfl
      go_wp2_with fail
      refine HBY.out.mono ?_
      rintro e w5 ⟨rfl, hby5, hb6⟩
      have hb7 := HB5.out.trans (hb6.mono (by simp; omega))
      have hq5 := (hb6.block w.heap.size (Array.getElem?_eq_some_iff.1 HQ4.out).1).trans HQ4.out
      have hs5 : w3.heap.size + 1 ≤ w5.heap.size := by have := hb6.size; simpa using this
      rw [World.size_alloc] at hby5
      have HOF2 := Lib.hid (Of_any (fneg B) _ 8 (fwhole B) _ hby5 (by omega))
      have HB7 := Lib.hid hb7; have HQ5 := Lib.hid hq5; have HS5 := Lib.hid hs5
      clear hby5 hb6 hb7 hq5 hs5
      go_wp2_with fail
      refine HOF2.out.mono ?_
      rintro e w6 ⟨s6, m6, rfl, hm6, hn6⟩
      obtain ⟨a6, c6, rfl⟩ := hn6.1.shape
      have hR := (hn6.2.2.block w.heap.size (Array.getElem?_eq_some_iff.1 HQ5.out).1).trans HQ5.out
      have hne : ∀ b k c', Value.slice a6 m6 c6 = .slice (some b) k c' → 0 < m6 → b.block ≠ w.heap.size := fun b k c' e h0 => by
        have := hn6.2.1 b k c' e h0
        have h5 := HS5.out
        omega
      have HN := Lib.hid (hn6.from HB7.out)
      have HNE := Lib.hid hne; have HR := Lib.hid hR
      have z0 := (cell_of_row w6 _ 0 _ _ (0, 0) hR).trans rfl
      have z1 := (cell_of_row w6 _ 1 _ _ (0, 0) hR).trans rfl
      have f0 : ∀ i, w6.frozen? ⟨w.heap.size, i, none⟩ = false := fun i => by simp [World.frozen?, hR]
      obtain ⟨ng2, hng2⟩ : ∃ ng2, ng2 = (fneg B && decide (0 < fwhole B)) := ⟨_, rfl⟩
      rw [← hng2]
      have HNG2 := Lib.hid hng2
      clear hn6 hne hR hng2
      go_wp2
      have hW := set1 (i := 1) (x := .slice a6 m6 c6) (set1 (i := 0) (x := .bool ng2) HR.out)
      have e0 := (cell_of_row _ _ 0 _ _ (0, 0) hW).trans rfl
      have e1 := (cell_of_row _ _ 1 _ _ (0, 0) hW).trans rfl
      have hfin := (HN.out.put (Nat.le_refl _) (o := 0) HNE.out (.bool ng2)).put (Nat.le_refl _) (o := 1) HNE.out (.slice a6 m6 c6)
      rw [← HNG2.out]
      exact bodyPost_ret (v := .tuple #[.agg #[.bool ng2, .slice a6 m6 c6], .bool (x == 0)]) (by simp [results, Tryz.results127, go_sem, e0, e1]) rfl ⟨_, m6, by rw [HFA.out], by omega, hfin.1, hfin.2.2⟩

end Go.Proofs.YtpcleebnfgnhdaaGreatDoor
