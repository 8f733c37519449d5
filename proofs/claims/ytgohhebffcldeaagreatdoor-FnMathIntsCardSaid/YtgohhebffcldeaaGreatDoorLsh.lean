/- Walks: spec.Int.Lsh, spec.Whole. -/
import Derived.Test.YtgohhebffcldeaaGreatDoorMul
set_option linter.unusedVariables false
set_option linter.unusedSimpArgs false
namespace Go.Proofs.YtgohhebffcldeaaGreatDoor
open Go.RowKit
open Num

theorem Mul_mag (nx ny : Bool) (s t : Value) (n V m U : Nat) (w : World) (hs : MagAt w s n V) (ht : MagAt w t m U) (h0 : 0 < n) (h1 : 0 < m) (hn : n ≤ 16777216) (hm : m ≤ 16777216) :
    Calls Tryz.prog 87 #[.agg #[.bool nx, s], .agg #[.bool ny, t]] w fun e w' => ∃ s l, e = .returned (.agg #[.bool ((nx != ny) && decide (0 < V * U)), s]) ∧ l ≤ n + m ∧ NewMag w w' s l (V * U) := by
  rcases hs.2 with ⟨h, _⟩ | ⟨_, g, p, c, rfl, hnc, hg, hc⟩
  · omega
  · rcases ht.2 with ⟨h, _⟩ | ⟨_, g2, p2, c2, rfl, hnc2, hg2, hc2⟩
    · omega
    · exact Mul_some nx ny g p c n V g2 p2 c2 m U w h0 h1 hn hm hs.1.1 ht.1.1 hg hg2 hc hc2

theorem Lsh_any (neg : Bool) (s : Value) (n V k : Nat) (w : World) (h : MagAt w s n V) (hn : n ≤ 16777216) (hk : k ≤ 65536) :
    Calls Tryz.prog 52 #[.agg #[.bool neg, s], .int .i64 k] w fun e w' => ∃ s' m, e = .returned (.agg #[.bool (neg && decide (0 < V)), s']) ∧ m ≤ n + k / 8 + 1 ∧ NewMag w w' s' m (V * 2 ^ k) := by
  obtain ⟨a, c, rfl⟩ := h.shape
  obtain ⟨w1, hw1⟩ : ∃ w1, w1 = (w.alloc (.cells #[.bool neg, .slice a n c] 29)).alloc (.cells #[.bool false, .slice none 0 0] 29) := ⟨_, rfl⟩
  have hb1 : Below w.heap.size w w1 := by rw [hw1]; exact ((Below.refl _ _).alloc (Nat.le_refl _) _).alloc (by simp) _
  have hsz1 : w1.heap.size = w.heap.size + 2 := by rw [hw1]; simp
  have q0 : w1.heap[w.heap.size]? = some (.cells #[.bool neg, .slice a n c] 29 (0, 0)) := by rw [hw1]; exact heap2_0 _ _ _
  have q1 : w1.heap[w.heap.size + 1]? = some (.cells #[.bool false, .slice none 0 0] 29 (0, 0)) := by rw [hw1]; exact heap2_1 _ _ _
  have HZ := Lib.hid (Zero_any neg (.slice a n c) n V w1 (h.below hb1))
  have HM := Lib.hid h
  have HB := Lib.hid hb1
  have HW := Lib.hid hw1
  have HSZ := Lib.hid hsz1
  have HQ0 := Lib.hid q0
  have HQ1 := Lib.hid q1
  have hz := h.1.zero_iff
  clear h hb1 hw1 hsz1 q0 q1
  by_cases h0 : n = 0
  · subst h0
    obtain rfl : V = 0 := hz.1 rfl
    go_enter Tryz.func52, Tryz.ntmps52
    go_wp2_with fail
    rw [← HW.out]
    refine HZ.out.mono ?_
    rintro e w2 ⟨rfl, rfl⟩
    have hR := (heap_alloc_old w1 (.cells #[.bool neg, .slice a 0 c] 29) (show w.heap.size + 1 < w1.heap.size by have := HSZ.out; omega)).trans HQ1.out
    have hb2 : Below w.heap.size w (w1.alloc (.cells #[.bool neg, .slice a 0 c] 29)) := HB.out.alloc (by have := HSZ.out; omega) _
    have c0 := (cell_of_row _ _ 0 _ _ (0, 0) hR).trans rfl
    have c1 := (cell_of_row _ _ 1 _ _ (0, 0) hR).trans rfl
    have HR := Lib.hid hR
    have HB2 := Lib.hid hb2
    have f0 : ∀ i, (w1.alloc (.cells #[.bool neg, .slice a 0 c] 29)).frozen? ⟨w.heap.size + 1, i, none⟩ = false := fun i => by simp [World.frozen?, hR]
    clear hR hb2 hz
    generalize w1.alloc (.cells #[.bool neg, .slice a 0 c] 29) = w2 at *
    go_wp2
    have hW := set1 (i := 1) (x := .slice none 0 0) (set1 (i := 0) (x := .bool false) HR.out)
    have e0 := (cell_of_row _ _ 0 _ _ (0, 0) hW).trans rfl
    have e1 := (cell_of_row _ _ 1 _ _ (0, 0) hW).trans rfl
    refine bodyPost_ret (v := .agg #[.bool false, .slice none 0 0]) (by simp [results, Tryz.results52, go_sem, e0, e1]) rfl ⟨.slice none 0 0, 0, by simp, by omega, ⟨⟨by simp, fun h => absurd h (by omega)⟩, .inl ⟨rfl, _, _, rfl⟩⟩, fun _ _ _ _ h => absurd h (by omega), (HB2.out.setCell (by simp) _).setCell (by simp) _⟩
  · have hV : 0 < V := by
      rcases Nat.eq_zero_or_pos V with h | h
      · exact absurd (hz.2 h) h0
      · exact h
    go_enter Tryz.func52, Tryz.ntmps52
    go_wp2_with fail
    rw [← HW.out]
    refine HZ.out.mono ?_
    rintro e w2 ⟨rfl, rfl⟩
    go_wp2_with fail
    obtain ⟨w2, hw2⟩ : ∃ w2, w2 = w1.alloc (.cells #[.bool neg, .slice a n c] 29) := ⟨_, rfl⟩
    rw [← hw2]
    have hbw : Below w1.heap.size w1 w2 := by rw [hw2]; exact (Below.refl _ _).alloc (Nat.le_refl _) _
    have hb2 : Below w.heap.size w w2 := HB.out.trans (hbw.mono (by have := HSZ.out; omega))
    have hsz2 : w.heap.size + 2 ≤ w2.heap.size := by have := hbw.size; have := HSZ.out; omega
    have hq0 := (hbw.block w.heap.size (by have := HSZ.out; omega)).trans HQ0.out
    have hq1 := (hbw.block (w.heap.size + 1) (by have := HSZ.out; omega)).trans HQ1.out
    have hm2 := HM.out.below hb2
    have z0 := (cell_of_row w2 _ 0 _ _ (0, 0) hq0).trans rfl
    have z1 := (cell_of_row w2 _ 1 _ _ (0, 0) hq0).trans rfl
    have HW2 := Lib.hid hw2
    have HB2 := Lib.hid hb2
    have HS2 := Lib.hid hsz2
    have HP0 := Lib.hid hq0
    have HP1 := Lib.hid hq1
    have HM2 := Lib.hid hm2
    have HPOW := Lib.hid (Power_any k (by omega) w2.drew)
    have HV := Lib.hid hV
    have HN0 := Lib.hid h0
    clear hw2 hbw hb2 hsz2 hq0 hq1 hm2 hz hV
    go_region_law (first | (go_simp; go_at_call 54; refine HPOW.out.mono ?_; rintro e w3 ⟨s3, m3, rfl, hm3, hn3⟩; obtain ⟨a3, c3, rfl⟩ := hn3.1.shape; have hp3 : m3 ≠ 0 := (fun e => absurd (hn3.1.1.zero_iff.1 e) (Nat.ne_of_gt (Nat.two_pow_pos k))); have HML := Lib.hid (Mul_mag neg false (.slice a n c) (.slice a3 m3 c3) n V m3 (2 ^ k) w3 (HM2.out.below (below_undrew hn3.2.2)) hn3.1 (by omega) (by omega) hn (by omega)); have HN3 := Lib.hid hn3; have R0 := Lib.hid ((hn3.2.2.block w.heap.size (by have := HS2.out; show _ < w2.heap.size; omega)).trans HP0.out); have R1 := Lib.hid ((hn3.2.2.block (w.heap.size + 1) (by have := HS2.out; show _ < w2.heap.size; omega)).trans HP1.out); have y0 := (cell_of_row w3 _ 0 _ _ (0, 0) R0.out).trans rfl; have y1 := (cell_of_row w3 _ 1 _ _ (0, 0) R0.out).trans rfl; have HM3 := Lib.hid hm3; clear hn3 hp3 hm3) | (go_simp; go_at_call 87; refine HML.out.mono ?_; rintro e w4 ⟨s4, l, rfl, hl, hn4⟩; obtain ⟨a4, c4, rfl⟩ := hn4.1.shape; have S1 := Lib.hid ((hn4.2.2.block (w.heap.size + 1) (Array.getElem?_eq_some_iff.1 R1.out).1).trans R1.out); have u0 := (cell_of_row w4 _ 0 _ _ (0, 0) S1.out).trans rfl; have u1 := (cell_of_row w4 _ 1 _ _ (0, 0) S1.out).trans rfl; have f0 : ∀ i, w4.frozen? ⟨w.heap.size + 1, i, none⟩ = false := (fun i => by simp [World.frozen?, S1.out]); obtain ⟨ng, hng⟩ : ∃ ng, ng = ((neg != false) && decide (0 < V * 2 ^ k)) := ⟨_, rfl⟩; rw [← hng]; have HNG := Lib.hid hng; have HN4 := Lib.hid hn4; have HL := Lib.hid hl; clear hn4 hng hl))
    all_goals (
      go_wp2
      have hW := set1 (i := 1) (x := .slice a4 l c4) (set1 (i := 0) (x := .bool ng) S1.out)
      have e0 := (cell_of_row _ _ 0 _ _ (0, 0) hW).trans rfl
      have e1 := (cell_of_row _ _ 1 _ _ (0, 0) hW).trans rfl
      have hs3 : w.heap.size + 2 ≤ w3.heap.size := Nat.le_trans HS2.out HN3.out.2.2.size
      have hbw : Below w.heap.size w w3 := HB2.out.trans ((below_undrew HN3.out.2.2).mono (by have := HS2.out; show w.heap.size ≤ w2.heap.size; omega))
      have hne : ∀ b k c', Value.slice a4 l c4 = .slice (some b) k c' → 0 < l → b.block ≠ w.heap.size + 1 := fun b k c' e h0 => by have := HN4.out.2.1 b k c' e h0; omega
      have hM3 := HM3.out
      have hL := HL.out
      refine bodyPost_ret (v := .agg #[.bool ng, .slice a4 l c4]) (by simp [results, Tryz.results52, go_sem, e0, e1]) rfl ⟨_, l, ?_, by omega, ((HN4.out.from hbw).put (by omega) hne _).put (by omega) hne _⟩
      rw [HNG.out]
      have hp : 0 < V * 2 ^ k := Nat.mul_pos HV.out (Nat.two_pow_pos k)
      simp [hp, HV.out])

theorem bytesOf_Of (neg : Bool) (s : Value) (U : Nat) (w : World) (h : BytAt w s 8 U) :
    Calls Tryz.prog 6 #[.bool neg, s] w fun e w' => ∃ s' m, e = .returned (.agg #[.bool (neg && decide (0 < U)), s']) ∧ m ≤ 8 ∧ NewMag w w' s' m U := Of_any neg s 8 U w h (by omega)

theorem Whole_any (B : Nat) (hB : B < 18446744073709551616) (hf : fexp B ≠ 2047) (w : World) :
    Calls Tryz.prog 61 #[.float .f64 B] w fun e w' => ∃ s m b, e = .returned (.tuple #[.agg #[.bool (fneg B && decide (0 < fwhole B)), s], .bool b]) ∧ m ≤ 4096 ∧ MagAt w' s m (fwhole B) ∧ Below w.heap.size w w' := by
  have HP := Lib.hid (fun W : World => floatParts_any B hB W)
  have hM := fman_lt B
  go_enter Tryz.func61, Tryz.ntmps61
  go_wp2_with fail
  refine (HP.out _).mono ?_
  rintro e w1 ⟨rfl, rfl⟩
  go_wp2_with fail
  refine (bytesOf_any (fman B) (by omega) _).mono ?_
  rintro e w2 ⟨rfl, hby, hb2⟩
  have hb0 : Below w.heap.size w (w.alloc (.cells #[.bool false, .slice none 0 0] 29)) := (Below.refl _ _).alloc (Nat.le_refl _) _
  have hq0 := (hb2.block w.heap.size (by simp)).trans (heap_alloc_new w _)
  have hb3 := hb0.trans (hb2.mono (by simp))
  have hs2 : w.heap.size + 1 ≤ w2.heap.size := by have := hb2.size; simpa using this
  rw [World.size_alloc] at hby
  have HOF := Lib.hid (Of_any (fneg B) _ 8 (fman B) _ hby (by omega))
  have HQ0 := Lib.hid hq0; have HB3 := Lib.hid hb3; have HS2 := Lib.hid hs2
  clear hb0 hq0 hb3 hs2 hby hb2
  go_wp2_with fail
  refine HOF.out.mono ?_
  rintro e w3 ⟨s3, m3, rfl, hm3, hn3⟩
  obtain ⟨a3, c3, rfl⟩ := hn3.1.shape
  obtain ⟨ng, hng⟩ : ∃ ng, ng = (fneg B && decide (0 < fman B)) := ⟨_, rfl⟩
  rw [← hng]
  have HNG := Lib.hid hng
  have HM3 := Lib.hid hn3.1
  have hb4 : Below w.heap.size w w3 := HB3.out.trans (hn3.2.2.mono (by have := HS2.out; omega))
  have hs3 : w.heap.size + 1 ≤ w3.heap.size := Nat.le_trans HS2.out hn3.2.2.size
  have hq3 := (hn3.2.2.block w.heap.size (by have := HS2.out; omega)).trans HQ0.out
  have HB4 := Lib.hid hb4; have HS3 := Lib.hid hs3; have HQ3 := Lib.hid hq3
  clear hng hn3 hb4 hs3 hq3
  have hbw : Below w3.heap.size w3 (w3.alloc (.cells #[.bool ng, .slice a3 m3 c3] 29)) := (Below.refl _ _).alloc (Nat.le_refl _) _
  have hM4 := HM3.out.below hbw
  have hq4 := (hbw.block w.heap.size (by have := HS3.out; omega)).trans HQ3.out
  have hb5 : Below w.heap.size w (w3.alloc (.cells #[.bool ng, .slice a3 m3 c3] 29)) := HB4.out.alloc (by have := HS3.out; omega) _
  have HM4 := Lib.hid hM4; have HQ4 := Lib.hid hq4; have HB5 := Lib.hid hb5
  clear hbw hM4 hq4 hb5
  by_cases hp : 0 ≤ fplace B
  · obtain ⟨k, hk⟩ := Int.eq_ofNat_of_zero_le hp
    have hkb : k ≤ 971 := by
      have h1 := fexp_lt B
      unfold fplace at hk
      split at hk <;> omega
    have hhi := fplace_hi hp
    have hfw : fwhole B = fman B * 2 ^ k := by unfold fwhole; rw [if_pos hp, hk]; rfl
    have hL := Lsh_any ng (.slice a3 m3 c3) m3 (fman B) k _ HM4.out (by omega) (by omega)
    have HL := Lib.hid hL
    have hd : decide (0 < fman B) = true := by simp; omega
    have hd2 : decide (0 < fwhole B) = true := by rw [hfw]; exact decide_eq_true (Nat.mul_pos (by omega) (Nat.two_pow_pos k))
    have HFW := Lib.hid hfw; have HD := Lib.hid hd; have HD2 := Lib.hid hd2; have HHI := Lib.hid hhi
    clear hL hfw hd hd2 hhi hp
    go_wp2_with fail
    refine HL.out.mono ?_
    rintro e w5 ⟨s5, m5, rfl, hm5, hn5⟩
    obtain ⟨a5, c5, rfl⟩ := hn5.1.shape
    have hR := (hn5.2.2.block w.heap.size (Array.getElem?_eq_some_iff.1 HQ4.out).1).trans HQ4.out
    have hne : ∀ b k c', Value.slice a5 m5 c5 = .slice (some b) k c' → 0 < m5 → b.block ≠ w.heap.size := fun b k c' e h0 => by
      have := hn5.2.1 b k c' e h0
      have h3 := HS3.out
      simp at this
      omega
    have HN := Lib.hid (hn5.from HB5.out)
    have HNE := Lib.hid hne; have HR := Lib.hid hR
    have z0 := (cell_of_row w5 _ 0 _ _ (0, 0) hR).trans rfl
    have z1 := (cell_of_row w5 _ 1 _ _ (0, 0) hR).trans rfl
    have f0 : ∀ i, w5.frozen? ⟨w.heap.size, i, none⟩ = false := fun i => by simp [World.frozen?, hR]
    rw [HD.out]
    clear hn5 hne hR
    go_wp2
    have hW := set1 (i := 1) (x := .slice a5 m5 c5) (set1 (i := 0) (x := .bool ng) HR.out)
    have e0 := (cell_of_row _ _ 0 _ _ (0, 0) hW).trans rfl
    have e1 := (cell_of_row _ _ 1 _ _ (0, 0) hW).trans rfl
    have hfin := (HN.out.put (Nat.le_refl _) (o := 0) HNE.out (.bool ng)).put (Nat.le_refl _) (o := 1) HNE.out (.slice a5 m5 c5)
    rw [← HFW.out] at hfin
    refine bodyPost_ret (v := .tuple #[.agg #[.bool ng, .slice a5 m5 c5], .bool true]) (by simp [results, Tryz.results61, go_sem, e0, e1]) rfl ⟨_, m5, true, ?_, by omega, hfin.1, hfin.2.2⟩
    rw [HNG.out, HD2.out, HD.out]
  · by_cases hq : fplace B < -63
    · have hfw : fwhole B = 0 := by
        unfold fwhole
        rw [if_neg hp]
        refine Nat.div_eq_of_lt (Nat.lt_of_lt_of_le hM ?_)
        have : 2 ^ 53 ≤ 2 ^ (-fplace B).toNat := Nat.pow_le_pow_right (by omega) (by omega)
        simpa using this
      have HFW := Lib.hid hfw
      have z0 := (cell_of_row _ _ 0 _ _ (0, 0) HQ4.out).trans rfl
      have z1 := (cell_of_row _ _ 1 _ _ (0, 0) HQ4.out).trans rfl
      have f0 : ∀ i, (w3.alloc (.cells #[.bool ng, .slice a3 m3 c3] 29)).frozen? ⟨w.heap.size, i, none⟩ = false := fun i => by simp [World.frozen?, HQ4.out]
      have hlt : 0 < w3.heap.size := by have := HS3.out; omega
      clear hfw hp
      go_wp2
      have hW := set1 (i := 1) (x := .slice none 0 0) (set1 (i := 0) (x := .bool false) HQ4.out)
      have e0 := (cell_of_row _ _ 0 _ _ (0, 0) hW).trans rfl
      have e1 := (cell_of_row _ _ 1 _ _ (0, 0) hW).trans rfl
      refine bodyPost_ret (v := .tuple #[.agg #[.bool false, .slice none 0 0], .bool ((fman B : Int) == 0)]) (by simp [results, Tryz.results61, go_sem, e0, e1]) rfl ⟨.slice none 0 0, 0, ((fman B : Int) == 0), ?_, by omega, ?_, (HB5.out.setCell (by simp) _).setCell (by simp) _⟩
      · rw [HFW.out]; simp
      · rw [HFW.out]; exact ⟨⟨by simp, fun h => absurd h (by omega)⟩, .inl ⟨rfl, _, _, rfl⟩⟩
    · have hsh : (fman B : Int) / 2 ^ (-fplace B).toNat = (fwhole B : Int) := by
        unfold fwhole
        rw [if_neg hp]
        simp
      have hfl : fwhole B < 18446744073709551616 := by
        unfold fwhole
        rw [if_neg hp]
        exact Nat.lt_of_le_of_lt (Nat.div_le_self _ _) (by omega)
      have hs3 := HS3.out
      have HBY := Lib.hid (bytesOf_any (fwhole B) hfl (w3.alloc (.cells #[.bool ng, .slice a3 m3 c3] 29)))
      have HFL := Lib.hid hfl
      obtain ⟨x, hx⟩ : ∃ x, bits .and .u64 (fman B : Int) (IntKind.u64.wrap (IntKind.u64.wrap (2 ^ (-fplace B).toNat) - 1)) = x := ⟨_, rfl⟩
      clear hfl
      go_wp2_with fail
      refine HBY.out.mono ?_
      rintro e w5 ⟨rfl, hby5, hb6⟩
      have hb7 := HB5.out.trans (hb6.mono (by simp; omega))
      have hq5 := (hb6.block w.heap.size (Array.getElem?_eq_some_iff.1 HQ4.out).1).trans HQ4.out
      have hs5 : w3.heap.size + 1 ≤ w5.heap.size := by have := hb6.size; simpa using this
      rw [World.size_alloc] at hby5
      have HOF2 := Lib.hid (Of_any (fneg B) _ 8 (fwhole B) _ hby5 (by omega))
      have HB7 := Lib.hid hb7; have HQ5 := Lib.hid hq5; have HS5 := Lib.hid hs5
      clear hby5 hb6 hb7 hq5 hs5
      go_wp2_with fail
      refine HOF2.out.mono ?_
      rintro e w6 ⟨s6, m6, rfl, hm6, hn6⟩
      obtain ⟨a6, c6, rfl⟩ := hn6.1.shape
      have hR := (hn6.2.2.block w.heap.size (Array.getElem?_eq_some_iff.1 HQ5.out).1).trans HQ5.out
      have hne : ∀ b k c', Value.slice a6 m6 c6 = .slice (some b) k c' → 0 < m6 → b.block ≠ w.heap.size := fun b k c' e h0 => by
        have := hn6.2.1 b k c' e h0
        have h5 := HS5.out
        omega
      have HN := Lib.hid (hn6.from HB7.out)
      have HNE := Lib.hid hne; have HR := Lib.hid hR
      have z0 := (cell_of_row w6 _ 0 _ _ (0, 0) hR).trans rfl
      have z1 := (cell_of_row w6 _ 1 _ _ (0, 0) hR).trans rfl
      have f0 : ∀ i, w6.frozen? ⟨w.heap.size, i, none⟩ = false := fun i => by simp [World.frozen?, hR]
      obtain ⟨ng2, hng2⟩ : ∃ ng2, ng2 = (fneg B && decide (0 < fwhole B)) := ⟨_, rfl⟩
      rw [← hng2]
      have HNG2 := Lib.hid hng2
      clear hn6 hne hR hng2
      go_wp2
      have hW := set1 (i := 1) (x := .slice a6 m6 c6) (set1 (i := 0) (x := .bool ng2) HR.out)
      have e0 := (cell_of_row _ _ 0 _ _ (0, 0) hW).trans rfl
      have e1 := (cell_of_row _ _ 1 _ _ (0, 0) hW).trans rfl
      have hfin := (HN.out.put (Nat.le_refl _) (o := 0) HNE.out (.bool ng2)).put (Nat.le_refl _) (o := 1) HNE.out (.slice a6 m6 c6)
      rw [← HNG2.out]
      exact bodyPost_ret (v := .tuple #[.agg #[.bool ng2, .slice a6 m6 c6], .bool (x == 0)]) (by simp [results, Tryz.results61, go_sem, e0, e1]) rfl ⟨_, m6, _, rfl, by omega, hfin.1, hfin.2.2⟩

end Go.Proofs.YtgohhebffcldeaaGreatDoor
