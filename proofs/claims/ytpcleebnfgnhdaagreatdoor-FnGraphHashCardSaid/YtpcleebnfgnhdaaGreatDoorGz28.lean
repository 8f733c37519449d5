import Derived.Test.YtpcleebnfgnhdaaGreatDoorGz26
import Derived.Test.YtpcleebnfgnhdaaGreatDoorGz27
import Derived.Test.YtpcleebnfgnhdaaGreatDoorGz6
import Derived.Test.YtpcleebnfgnhdaaGreatDoorGz9
import Derived.Test.YtpcleebnfgnhdaaGreatDoorGz5
/- Walk: spec.Int.CmpFloat. Walks: spec.number, Num, Fl, holds. Walks: spec.cmpNumbers, Equal and Compare of an integer and a float, both ways round. Walks: spec.Equal and spec.Compare of an integer and a float, both ways round. -/
set_option linter.unusedVariables false
set_option linter.unusedSimpArgs false
namespace Go.Proofs.YtpcleebnfgnhdaaGreatDoor
open Go.RowKit
open Num

theorem fall_zero (B : Nat) (h : fman B = 0) : fall B = true := by unfold fall; rw [h]; simp
theorem lt_zero_any (B : Nat) (hB : B < 18446744073709551616) (hf : fexp B ≠ 2047) (h : fall B = false) : (FloatKind.f64.format.order B 0 == some .lt) = fneg B := by
  refine lt_zero B hB hf ?_
  rcases Nat.eq_zero_or_pos (fman B) with h0 | h0
  · rw [fall_zero B h0] at h; cases h
  · exact h0
theorem sI_fwhole (B : Nat) : sI (fneg B && decide (0 < fwhole B)) (fwhole B) = sI (fneg B) (fwhole B) := sI_and _ _

set_option maxRecDepth 100000 in
set_option maxHeartbeats 1000000 in
theorem CmpFloat_any (neg : Bool) (s : Value) (n V B : Nat) (w : World) (hm : MagAt w s n V) (hn : n ≤ 16777216) (hneg : neg = true → 0 < V) (hB : B < 18446744073709551616) :
    Calls Tryz.prog 95 #[.agg #[.bool neg, s], .float .f64 B] w fun e w' => e = .returned (.int .i64 (fcAll (sI neg V) B)) ∧ Below w.heap.size w w' := by
  obtain ⟨a, c, rfl⟩ := hm.shape
  have HN := Lib.hid (fun W : World => IsNaN_any B hB W)
  by_cases hnan : fexp B = 2047 ∧ ffrac B ≠ 0
  · have hc : fcAll (sI neg V) B = -1 := by unfold fcAll; rw [if_pos hnan.1, if_pos hnan.2]
    have hd : decide (fexp B = 2047 ∧ ffrac B ≠ 0) = true := by simpa using hnan
    rw [hd] at HN
    rw [hc]
    clear hm hn hneg hnan hc hd
    go_enter Tryz.func95, Tryz.ntmps95
    go_wp2_with fail
    refine (HN.out _).mono ?_
    rintro e w2 ⟨rfl, rfl⟩
    go_wp2
    go_ret
    exact ⟨rfl, below_al0 _ _⟩
  · have hd : decide (fexp B = 2047 ∧ ffrac B ≠ 0) = false := by simpa using hnan
    rw [hd] at HN
    have HIP := Lib.hid (fun W : World => IsInf_pos B hB hnan W)
    have HIN := Lib.hid (fun W : World => IsInf_neg B hB hnan W)
    by_cases hf : fexp B = 2047
    · have h0 : ffrac B = 0 := by
        rcases Nat.eq_zero_or_pos (ffrac B) with h | h
        · exact h
        · exact absurd ⟨hf, by omega⟩ hnan
      have hc : fcAll (sI neg V) B = if fneg B then 1 else -1 := by unfold fcAll; rw [if_pos hf, if_neg (by omega)]
      have hdf : decide (fexp B = 2047) = true := by simp [hf]
      rw [hdf, Bool.true_and] at HIP
      rw [hdf, Bool.true_and] at HIN
      rw [hc]
      clear hm hn hneg hnan hc hd hf h0 hdf
      obtain ⟨fb, hfb⟩ : ∃ fb, fb = fneg B := ⟨_, rfl⟩
      rw [← hfb] at HIP HIN ⊢
      clear hfb
      cases fb
      · go_enter Tryz.func95, Tryz.ntmps95
        go_wp2_with fail
        refine (HN.out _).mono ?_
        rintro e w2 ⟨rfl, rfl⟩
        go_wp2_with fail
        refine (HIP.out _).mono ?_
        rintro e w3 ⟨rfl, rfl⟩
        go_wp2
        go_ret
        exact ⟨rfl, below_al0 _ _⟩
      · go_enter Tryz.func95, Tryz.ntmps95
        go_wp2_with fail
        refine (HN.out _).mono ?_
        rintro e w2 ⟨rfl, rfl⟩
        go_wp2_with fail
        refine (HIP.out _).mono ?_
        rintro e w3 ⟨rfl, rfl⟩
        go_wp2_with fail
        refine (HIN.out _).mono ?_
        rintro e w4 ⟨rfl, rfl⟩
        go_wp2
        go_ret
        exact ⟨rfl, below_al0 _ _⟩
    · have hc : fcAll (sI neg V) B = fcmp (sI neg V) B := by unfold fcAll; rw [if_neg hf]
      have hdf : decide (fexp B = 2047) = false := by simp [hf]
      rw [hdf, Bool.false_and] at HIP
      rw [hdf, Bool.false_and] at HIN
      rw [hc, ← fcmp_whole]
      obtain ⟨rs, hrs⟩ : ∃ rs, rs = (if icmp (sI neg V) (sI (fneg B) (fwhole B)) ≠ 0 ∨ fall B = true then icmp (sI neg V) (sI (fneg B) (fwhole B)) else if fneg B then 1 else -1) := ⟨_, rfl⟩
      rw [← hrs]
      have HRS := Lib.hid hrs
      clear hrs
      have HWL := Lib.hid (fun W : World => Whole_fall B hB hf W)
      have HLT := Lib.hid (fun h => lt_zero_any B hB hf h)
      have hq := heap_alloc_new w (.cells #[.bool neg, .slice a n c] 84)
      have hb1 := below_al0 w (.cells #[.bool neg, .slice a n c] 84)
      have HM := Lib.hid (hm.below hb1); have HB1 := Lib.hid hb1; have HQ := Lib.hid hq; have HNEG := Lib.hid hneg
      clear hm hneg hnan hc hd hf hdf hq hb1
      go_enter Tryz.func95, Tryz.ntmps95
      go_wp2_with fail
      refine (HN.out _).mono ?_
      rintro e w2 ⟨rfl, rfl⟩
      go_wp2_with fail
      refine (HIP.out _).mono ?_
      rintro e w3 ⟨rfl, rfl⟩
      go_wp2_with fail
      refine (HIN.out _).mono ?_
      rintro e w4 ⟨rfl, rfl⟩
      go_wp2_with fail
      refine (HWL.out _).mono ?_
      rintro e w5 ⟨s5, m5, rfl, hm5, hmag5, hb5⟩
      obtain ⟨a5, c5, rfl⟩ := hmag5.shape
      obtain ⟨ng, hng⟩ : ∃ ng, ng = (fneg B && decide (0 < fwhole B)) := ⟨_, rfl⟩
      have hng2 : ng = true → 0 < fwhole B := fun h => by rw [hng] at h; simp at h; exact h.2
      have hsI : sI ng (fwhole B) = sI (fneg B) (fwhole B) := by rw [hng]; exact sI_and _ _
      rw [← hng]
      have hq5 := (hb5.block _ (by simp)).trans HQ.out
      have hl5 := (Array.getElem?_eq_some_iff.1 hq5).1
      have hb6 := below_al0 w5 (.cells #[.bool ng, .slice a5 m5 c5] 84)
      have hq6 := (hb6.block _ hl5).trans hq5
      have x0 := (cell_of_row _ _ 0 _ _ (0, 0) hq6).trans rfl
      have x1 := (cell_of_row _ _ 1 _ _ (0, 0) hq6).trans rfl
      have HCM := Lib.hid (SpecCmp_any neg ng (.slice a n c) (.slice a5 m5 c5) n m5 V (fwhole B) _ ((HM.out.below hb5).below hb6) (hmag5.below hb6) hn (by omega) HNEG.out hng2)
      rw [hsI] at HCM
      have HB6 := Lib.hid ((HB1.out.trans (hb5.mono HB1.out.size)).trans (hb6.mono (Nat.le_trans HB1.out.size hb5.size)))
      clear hng hng2 hsI hq5 hb5 hb6 hq6 hmag5
      obtain ⟨ic, hic⟩ : ∃ ic, ic = icmp (sI neg V) (sI (fneg B) (fwhole B)) := ⟨_, rfl⟩
      rw [← hic] at HCM
      have HIC := Lib.hid hic; clear hic
      go_wp2_with fail
      refine HCM.out.mono ?_
      rintro e w7 ⟨rfl, hb7⟩
      have HB7 := Lib.hid (HB6.out.trans (hb7.mono HB6.out.size))
      clear hb7 x0 x1
      by_cases h0 : ic = 0
      · subst h0
        obtain ⟨fa, hfa⟩ : ∃ fa, fa = fall B := ⟨_, rfl⟩
        rw [← hfa] at HLT ⊢
        cases fa
        · have hlt := HLT.out rfl
          obtain ⟨fb, hfb⟩ : ∃ fb, fb = fneg B := ⟨_, rfl⟩
          have hR : rs = if fb then 1 else -1 := by
            rw [HRS.out, if_neg (by rw [← HIC.out, ← hfa]; simp), hfb]
          rw [← hfb] at hlt
          have HR := Lib.hid hR
          clear hfa hfb hR HLT
          cases fb
          all_goals go_wp2
          all_goals go_ret
          all_goals exact ⟨by rw [HR.out]; rfl, HB7.out⟩
        · have hR : rs = 0 := by
            rw [HRS.out, if_pos (.inr hfa.symm), ← HIC.out]
          have HR := Lib.hid hR
          clear hfa hR HLT
          go_wp2
          go_ret
          exact ⟨by rw [HR.out]; rfl, HB7.out⟩
      · have hd0 : (ic != 0) = true := by simpa using h0
        have hR : rs = ic := by
          rw [HRS.out, if_pos (.inl (by rw [← HIC.out]; exact h0)), ← HIC.out]
        have HR := Lib.hid hR
        obtain ⟨fa, hfa⟩ : ∃ fa, fa = fall B := ⟨_, rfl⟩
        rw [← hfa]
        clear h0 hR HLT hfa
        go_wp2
        go_ret
        exact ⟨by rw [HR.out]; rfl, HB7.out⟩
end Go.Proofs.YtpcleebnfgnhdaaGreatDoor

set_option linter.unusedVariables false
set_option linter.unusedSimpArgs false
namespace Go.Proofs.YtpcleebnfgnhdaaGreatDoor
open Go.RowKit
open Num

theorem number_int (neg : Bool) (s : Value) (w : World) :
    Calls Tryz.prog 76 #[valInt neg s] w fun e w' => e = .returned (.bool true) ∧ Below w.heap.size w w' := by
  go_enter Tryz.func76, Tryz.ntmps76
  go_wp2
  go_ret
  exact ⟨rfl, below_al0 _ _⟩
theorem number_float (B : Nat) (w : World) :
    Calls Tryz.prog 76 #[valFloat B] w fun e w' => e = .returned (.bool true) ∧ Below w.heap.size w w' := by
  go_enter Tryz.func76, Tryz.ntmps76
  go_wp2
  go_ret
  exact ⟨rfl, below_al0 _ _⟩
theorem Fl_float (B : Nat) (w : World) :
    Calls Tryz.prog 37 #[valFloat B] w fun e w' => e = .returned (.float .f64 B) ∧ Below w.heap.size w w' := by
  have hfb := run_frombits (B : Int)
  go_enter Tryz.func37, Tryz.ntmps37
  go_wp2
  go_ret
  exact ⟨by simp, below_al0 _ _⟩

theorem Num_int (neg : Bool) (s : Value) (n V : Nat) (w : World) (hm : MagAt w s n V) (hn : n ≤ 16777216) (hneg : neg = true → 0 < V) :
    Calls Tryz.prog 34 #[valInt neg s] w fun e w' => ∃ s' m, e = .returned (.agg #[.bool neg, s']) ∧ m ≤ n ∧ MagAt w' s' m V ∧ Below w.heap.size w w' := by
  obtain ⟨a, c, rfl⟩ := hm.shape
  obtain ⟨w1, hw1⟩ : ∃ w1, w1 = (w.alloc (.cells #[.int .i64 2, .bool neg, .slice a n c, .int .u64 0, .string ⟨#[]⟩, .slice none 0 0] 32)).alloc (.cells #[.bool false, .slice none 0 0] 84) := ⟨_, rfl⟩
  have hb1 : Below w.heap.size w w1 := by rw [hw1]; exact ((Below.refl _ _).alloc (Nat.le_refl _) _).alloc (by simp) _
  have r1 : w1.heap[w.heap.size]? = some (.cells #[.int .i64 2, .bool neg, .slice a n c, .int .u64 0, .string ⟨#[]⟩, .slice none 0 0] 32 (0, 0)) := by rw [hw1]; exact heap2_0 _ _ _
  have r2 : w1.heap[w.heap.size + 1]? = some (.cells #[.bool false, .slice none 0 0] 84 (0, 0)) := by rw [hw1]; exact heap2_1 _ _ _
  have hng : (neg && decide (0 < V)) = neg := by
    cases neg
    · rfl
    · simp [hneg rfl]
  have HOF := Lib.hid (Of_any neg (.slice a n c) n V w1 (hm.below hb1).byt (by omega))
  rw [hng] at HOF
  obtain ⟨x0, x1, x2, x3, x4, x5, x6⟩ := valRow r1
  have l2 := (Array.getElem?_eq_some_iff.1 r2).1
  have HB1 := Lib.hid hb1; have HR2 := Lib.hid r2; have HW1 := Lib.hid hw1; have HL2 := Lib.hid l2
  clear hm hneg hw1 hb1 r1 r2 hng l2
  go_enter Tryz.func34, Tryz.ntmps34
  go_wp2_with fail
  rw [← HW1.out]
  refine HOF.out.mono ?_
  rintro e w2 ⟨s', m, rfl, hm2, hn2⟩
  obtain ⟨a2, c2, rfl⟩ := hn2.1.shape
  have hR := (hn2.2.2.block _ HL2.out).trans HR2.out
  have hne : ∀ b k c', Value.slice a2 m c2 = .slice (some b) k c' → 0 < m → b.block ≠ w.heap.size + 1 := fun b k c' e h0 => by
    have := hn2.2.1 b k c' e h0
    have := HL2.out
    omega
  have HN := Lib.hid (hn2.from HB1.out)
  have HNE := Lib.hid hne; have HR := Lib.hid hR
  have z0 := (cell_of_row w2 _ 0 _ _ (0, 0) hR).trans rfl
  have z1 := (cell_of_row w2 _ 1 _ _ (0, 0) hR).trans rfl
  have f0 : ∀ i, w2.frozen? ⟨w.heap.size + 1, i, none⟩ = false := fun i => by simp [World.frozen?, hR]
  clear hn2 hne hR x0 x1 x2 x3 x4 x5 x6
  go_wp2
  have hW := set1 (i := 1) (x := .slice a2 m c2) (set1 (i := 0) (x := .bool neg) HR.out)
  have e0 := (cell_of_row _ _ 0 _ _ (0, 0) hW).trans rfl
  have e1 := (cell_of_row _ _ 1 _ _ (0, 0) hW).trans rfl
  have hfin := (HN.out.put (by omega) (o := 0) HNE.out (.bool neg)).put (by omega) (o := 1) HNE.out (.slice a2 m c2)
  exact bodyPost_ret (v := .agg #[.bool neg, .slice a2 m c2]) (by simp [results, Tryz.results34, go_sem, e0, e1]) rfl ⟨_, m, rfl, hm2, hfin.1, hfin.2.2⟩

end Go.Proofs.YtpcleebnfgnhdaaGreatDoor

set_option linter.unusedVariables false
set_option linter.unusedSimpArgs false
namespace Go.Proofs.YtpcleebnfgnhdaaGreatDoor
open Go.RowKit
open Num

theorem fcAll_bound (x : Int) (B : Nat) : -1 ≤ fcAll x B ∧ fcAll x B ≤ 1 := by
  unfold fcAll
  split
  · split
    · omega
    · split <;> omega
  · exact icmp_bound _ _

set_option maxRecDepth 100000 in
set_option maxHeartbeats 4000000 in
theorem cmpNumbers_if (neg : Bool) (s : Value) (n V B : Nat) (w : World) (hm : MagAt w s n V) (hn : n ≤ 16777216) (hneg : neg = true → 0 < V) (hB : B < 18446744073709551616) :
    Calls Tryz.prog 77 #[valInt neg s, valFloat B] w fun e w' => e = .returned (.int .i64 (fcAll (sI neg V) B)) ∧ Below w.heap.size w w' := by
  obtain ⟨a, c, rfl⟩ := hm.shape
  obtain ⟨w1, hw1⟩ : ∃ w1, w1 = (w.alloc (.cells #[.int .i64 2, .bool neg, .slice a n c, .int .u64 0, .string ⟨#[]⟩, .slice none 0 0] 32)).alloc (.cells #[.int .i64 3, .bool false, .slice none 0 0, .int .u64 B, .string ⟨#[]⟩, .slice none 0 0] 32) := ⟨_, rfl⟩
  have hb1 : Below w.heap.size w w1 := by rw [hw1]; exact ((Below.refl _ _).alloc (Nat.le_refl _) _).alloc (by simp) _
  have r1 : w1.heap[w.heap.size]? = some (.cells #[.int .i64 2, .bool neg, .slice a n c, .int .u64 0, .string ⟨#[]⟩, .slice none 0 0] 32 (0, 0)) := by rw [hw1]; exact heap2_0 _ _ _
  have r2 : w1.heap[w.heap.size + 1]? = some (.cells #[.int .i64 3, .bool false, .slice none 0 0, .int .u64 B, .string ⟨#[]⟩, .slice none 0 0] 32 (0, 0)) := by rw [hw1]; exact heap2_1 _ _ _
  have l1 := (Array.getElem?_eq_some_iff.1 r1).1
  have l2 := (Array.getElem?_eq_some_iff.1 r2).1
  have HP := Lib.hid (fun (W : World) (hb : Below w1.heap.size w1 W) => (show W.cell? ⟨w.heap.size, 0, none⟩ = some (.int .i64 2) ∧ W.cell? ⟨w.heap.size, 1, none⟩ = some (.bool neg) ∧ W.cell? ⟨w.heap.size, 2, none⟩ = some (.slice a n c) ∧ W.cell? ⟨w.heap.size, 3, none⟩ = some (.int .u64 0) ∧ W.cell? ⟨w.heap.size, 4, none⟩ = some (.string ⟨#[]⟩) ∧ W.cell? ⟨w.heap.size, 5, none⟩ = some (.slice none 0 0) ∧ W.cell? ⟨w.heap.size + 1, 0, none⟩ = some (.int .i64 3) ∧ W.cell? ⟨w.heap.size + 1, 1, none⟩ = some (.bool false) ∧ W.cell? ⟨w.heap.size + 1, 2, none⟩ = some (.slice none 0 0) ∧ W.cell? ⟨w.heap.size + 1, 3, none⟩ = some (.int .u64 B) ∧ W.cell? ⟨w.heap.size + 1, 4, none⟩ = some (.string ⟨#[]⟩) ∧ W.cell? ⟨w.heap.size + 1, 5, none⟩ = some (.slice none 0 0) from ⟨(cell_of_row W _ 0 _ _ (0, 0) ((hb.block _ l1).trans r1)).trans rfl, (cell_of_row W _ 1 _ _ (0, 0) ((hb.block _ l1).trans r1)).trans rfl, (cell_of_row W _ 2 _ _ (0, 0) ((hb.block _ l1).trans r1)).trans rfl, (cell_of_row W _ 3 _ _ (0, 0) ((hb.block _ l1).trans r1)).trans rfl, (cell_of_row W _ 4 _ _ (0, 0) ((hb.block _ l1).trans r1)).trans rfl, (cell_of_row W _ 5 _ _ (0, 0) ((hb.block _ l1).trans r1)).trans rfl, (cell_of_row W _ 0 _ _ (0, 0) ((hb.block _ l2).trans r2)).trans rfl, (cell_of_row W _ 1 _ _ (0, 0) ((hb.block _ l2).trans r2)).trans rfl, (cell_of_row W _ 2 _ _ (0, 0) ((hb.block _ l2).trans r2)).trans rfl, (cell_of_row W _ 3 _ _ (0, 0) ((hb.block _ l2).trans r2)).trans rfl, (cell_of_row W _ 4 _ _ (0, 0) ((hb.block _ l2).trans r2)).trans rfl, (cell_of_row W _ 5 _ _ (0, 0) ((hb.block _ l2).trans r2)).trans rfl⟩))
  have HNU := Lib.hid (fun (W : World) (hb : Below w1.heap.size w1 W) => Num_int neg (.slice a n c) n V W ((hm.below hb1).below hb) hn hneg)
  have HFL := Lib.hid (fun (W : World) => Fl_float B W)
  have HCF := Lib.hid (fun (s' : Value) (m : Nat) (W : World) (hmm : MagAt W s' m V) (h : m ≤ n) => CmpFloat_any neg s' m V B W hmm (by omega) hneg hB)
  obtain ⟨cc, hcc⟩ : ∃ cc, cc = fcAll (sI neg V) B := ⟨_, rfl⟩
  have hbd : -1 ≤ cc ∧ cc ≤ 1 := by rw [hcc]; exact fcAll_bound _ _
  rw [← hcc] at HCF ⊢
  obtain ⟨hc1, hc2⟩ := hbd
  have hwr : IntKind.i64.wrap (-cc) = -cc := by simp only [IntKind.wrap_i64]; omega
  have hwr2 : IntKind.i64.wrap (0 - cc) = -cc := by rw [Int.zero_sub]; exact hwr
  have HB1 := Lib.hid hb1; have HW1 := Lib.hid hw1
  clear hm hn hneg hb1 hw1 r1 r2 l1 l2 hcc
  obtain ⟨x0, x1, x2, x3, x4, x5, x6, x7, x8, x9, x10, x11⟩ := HP.out w1 (Below.refl _ _)
  obtain ⟨y0, y1, y2, y3, y4, y5, y6, y7, y8, y9, y10, y11⟩ := HP.out w1.drew (Below.refl _ _).drew
  go_enter Tryz.func77, Tryz.ntmps77
  go_wp2_with fail
  rw [← HW1.out]
  go_wp2_with fail
  go_region_law (first | (go_simp; go_at_call 34; refine (HNU.out _ (Below.refl _ _).drew).mono ?_; rintro e w2 ⟨s2, m2, rfl, hm2, hmag2, hb2⟩; obtain ⟨a2, c2, rfl⟩ := hmag2.shape; have hb2u := below_undrew hb2; obtain ⟨z0, z1, z2, z3, z4, z5, z6, z7, z8, z9, z10, z11⟩ := HP.out w2 hb2u; have HB2 := Lib.hid hb2u; have HM2 := Lib.hid hmag2; have HL2 := Lib.hid hm2; clear hb2u hb2 hmag2 hm2) | (go_simp; go_at_call 37; refine (HFL.out _).mono ?_; rintro e w3 ⟨rfl, hb3⟩; have HCF3 := Lib.hid (HCF.out _ m2 _ (HM2.out.below hb3) HL2.out); have HB3 := Lib.hid (HB2.out.trans (hb3.mono HB2.out.size)); clear hb3) | (go_simp; go_at_call 95; refine HCF3.out.mono ?_; rintro e w4 ⟨rfl, hb4⟩; have HB4 := Lib.hid (HB3.out.trans (hb4.mono HB3.out.size)); clear hb4))
  all_goals (
    go_wp2
    go_ret
    exact ⟨rfl, HB1.out.trans (HB4.out.mono HB1.out.size)⟩)

set_option maxRecDepth 100000 in
set_option maxHeartbeats 4000000 in
theorem cmpNumbers_fi (neg : Bool) (s : Value) (n V B : Nat) (w : World) (hm : MagAt w s n V) (hn : n ≤ 16777216) (hneg : neg = true → 0 < V) (hB : B < 18446744073709551616) :
    Calls Tryz.prog 77 #[valFloat B, valInt neg s] w fun e w' => e = .returned (.int .i64 (-(fcAll (sI neg V) B))) ∧ Below w.heap.size w w' := by
  obtain ⟨a, c, rfl⟩ := hm.shape
  obtain ⟨w1, hw1⟩ : ∃ w1, w1 = (w.alloc (.cells #[.int .i64 3, .bool false, .slice none 0 0, .int .u64 B, .string ⟨#[]⟩, .slice none 0 0] 32)).alloc (.cells #[.int .i64 2, .bool neg, .slice a n c, .int .u64 0, .string ⟨#[]⟩, .slice none 0 0] 32) := ⟨_, rfl⟩
  have hb1 : Below w.heap.size w w1 := by rw [hw1]; exact ((Below.refl _ _).alloc (Nat.le_refl _) _).alloc (by simp) _
  have r1 : w1.heap[w.heap.size]? = some (.cells #[.int .i64 3, .bool false, .slice none 0 0, .int .u64 B, .string ⟨#[]⟩, .slice none 0 0] 32 (0, 0)) := by rw [hw1]; exact heap2_0 _ _ _
  have r2 : w1.heap[w.heap.size + 1]? = some (.cells #[.int .i64 2, .bool neg, .slice a n c, .int .u64 0, .string ⟨#[]⟩, .slice none 0 0] 32 (0, 0)) := by rw [hw1]; exact heap2_1 _ _ _
  have l1 := (Array.getElem?_eq_some_iff.1 r1).1
  have l2 := (Array.getElem?_eq_some_iff.1 r2).1
  have HP := Lib.hid (fun (W : World) (hb : Below w1.heap.size w1 W) => (show W.cell? ⟨w.heap.size, 0, none⟩ = some (.int .i64 3) ∧ W.cell? ⟨w.heap.size, 1, none⟩ = some (.bool false) ∧ W.cell? ⟨w.heap.size, 2, none⟩ = some (.slice none 0 0) ∧ W.cell? ⟨w.heap.size, 3, none⟩ = some (.int .u64 B) ∧ W.cell? ⟨w.heap.size, 4, none⟩ = some (.string ⟨#[]⟩) ∧ W.cell? ⟨w.heap.size, 5, none⟩ = some (.slice none 0 0) ∧ W.cell? ⟨w.heap.size + 1, 0, none⟩ = some (.int .i64 2) ∧ W.cell? ⟨w.heap.size + 1, 1, none⟩ = some (.bool neg) ∧ W.cell? ⟨w.heap.size + 1, 2, none⟩ = some (.slice a n c) ∧ W.cell? ⟨w.heap.size + 1, 3, none⟩ = some (.int .u64 0) ∧ W.cell? ⟨w.heap.size + 1, 4, none⟩ = some (.string ⟨#[]⟩) ∧ W.cell? ⟨w.heap.size + 1, 5, none⟩ = some (.slice none 0 0) from ⟨(cell_of_row W _ 0 _ _ (0, 0) ((hb.block _ l1).trans r1)).trans rfl, (cell_of_row W _ 1 _ _ (0, 0) ((hb.block _ l1).trans r1)).trans rfl, (cell_of_row W _ 2 _ _ (0, 0) ((hb.block _ l1).trans r1)).trans rfl, (cell_of_row W _ 3 _ _ (0, 0) ((hb.block _ l1).trans r1)).trans rfl, (cell_of_row W _ 4 _ _ (0, 0) ((hb.block _ l1).trans r1)).trans rfl, (cell_of_row W _ 5 _ _ (0, 0) ((hb.block _ l1).trans r1)).trans rfl, (cell_of_row W _ 0 _ _ (0, 0) ((hb.block _ l2).trans r2)).trans rfl, (cell_of_row W _ 1 _ _ (0, 0) ((hb.block _ l2).trans r2)).trans rfl, (cell_of_row W _ 2 _ _ (0, 0) ((hb.block _ l2).trans r2)).trans rfl, (cell_of_row W _ 3 _ _ (0, 0) ((hb.block _ l2).trans r2)).trans rfl, (cell_of_row W _ 4 _ _ (0, 0) ((hb.block _ l2).trans r2)).trans rfl, (cell_of_row W _ 5 _ _ (0, 0) ((hb.block _ l2).trans r2)).trans rfl⟩))
  have HNU := Lib.hid (fun (W : World) (hb : Below w1.heap.size w1 W) => Num_int neg (.slice a n c) n V W ((hm.below hb1).below hb) hn hneg)
  have HFL := Lib.hid (fun (W : World) => Fl_float B W)
  have HCF := Lib.hid (fun (s' : Value) (m : Nat) (W : World) (hmm : MagAt W s' m V) (h : m ≤ n) => CmpFloat_any neg s' m V B W hmm (by omega) hneg hB)
  obtain ⟨cc, hcc⟩ : ∃ cc, cc = fcAll (sI neg V) B := ⟨_, rfl⟩
  have hbd : -1 ≤ cc ∧ cc ≤ 1 := by rw [hcc]; exact fcAll_bound _ _
  rw [← hcc] at HCF ⊢
  obtain ⟨hc1, hc2⟩ := hbd
  have hwr : IntKind.i64.wrap (-cc) = -cc := by simp only [IntKind.wrap_i64]; omega
  have hwr2 : IntKind.i64.wrap (0 - cc) = -cc := by rw [Int.zero_sub]; exact hwr
  have HB1 := Lib.hid hb1; have HW1 := Lib.hid hw1
  clear hm hn hneg hb1 hw1 r1 r2 l1 l2 hcc
  obtain ⟨x0, x1, x2, x3, x4, x5, x6, x7, x8, x9, x10, x11⟩ := HP.out w1 (Below.refl _ _)
  obtain ⟨y0, y1, y2, y3, y4, y5, y6, y7, y8, y9, y10, y11⟩ := HP.out w1.drew (Below.refl _ _).drew
  go_enter Tryz.func77, Tryz.ntmps77
  go_wp2_with fail
  rw [← HW1.out]
  go_wp2_with fail
  go_region_law (first | (go_simp; go_at_call 34; refine (HNU.out _ (Below.refl _ _).drew).mono ?_; rintro e w2 ⟨s2, m2, rfl, hm2, hmag2, hb2⟩; obtain ⟨a2, c2, rfl⟩ := hmag2.shape; have hb2u := below_undrew hb2; obtain ⟨z0, z1, z2, z3, z4, z5, z6, z7, z8, z9, z10, z11⟩ := HP.out w2 hb2u; have HB2 := Lib.hid hb2u; have HM2 := Lib.hid hmag2; have HL2 := Lib.hid hm2; clear hb2u hb2 hmag2 hm2) | (go_simp; go_at_call 37; refine (HFL.out _).mono ?_; rintro e w3 ⟨rfl, hb3⟩; have HCF3 := Lib.hid (HCF.out _ m2 _ (HM2.out.below hb3) HL2.out); have HB3 := Lib.hid (HB2.out.trans (hb3.mono HB2.out.size)); clear hb3) | (go_simp; go_at_call 95; refine HCF3.out.mono ?_; rintro e w4 ⟨rfl, hb4⟩; have HB4 := Lib.hid (HB3.out.trans (hb4.mono HB3.out.size)); clear hb4))
  all_goals (
    go_wp2
    go_ret
    exact ⟨rfl, HB1.out.trans (HB4.out.mono HB1.out.size)⟩)
end Go.Proofs.YtpcleebnfgnhdaaGreatDoor

set_option linter.unusedVariables false
set_option linter.unusedSimpArgs false
namespace Go.Proofs.YtpcleebnfgnhdaaGreatDoor
open Go.RowKit
open Num

set_option maxRecDepth 100000 in
theorem Equal_if (neg : Bool) (s : Value) (n V B : Nat) (w : World) (hm : MagAt w s n V) (hn : n ≤ 16777216) (hneg : neg = true → 0 < V) (hB : B < 18446744073709551616) :
    Calls Tryz.prog 55 #[valInt neg s, valFloat B] w fun e w' => e = .returned (.bool ((fcAll (sI neg V) B) == 0)) ∧ Below w.heap.size w w' := by
  obtain ⟨a, c, rfl⟩ := hm.shape
  obtain ⟨w1, hw1⟩ : ∃ w1, w1 = (w.alloc (.cells #[.int .i64 2, .bool neg, .slice a n c, .int .u64 0, .string ⟨#[]⟩, .slice none 0 0] 32)).alloc (.cells #[.int .i64 3, .bool false, .slice none 0 0, .int .u64 B, .string ⟨#[]⟩, .slice none 0 0] 32) := ⟨_, rfl⟩
  have hb1 : Below w.heap.size w w1 := by rw [hw1]; exact ((Below.refl _ _).alloc (Nat.le_refl _) _).alloc (by simp) _
  have r1 : w1.heap[w.heap.size]? = some (.cells #[.int .i64 2, .bool neg, .slice a n c, .int .u64 0, .string ⟨#[]⟩, .slice none 0 0] 32 (0, 0)) := by rw [hw1]; exact heap2_0 _ _ _
  have r2 : w1.heap[w.heap.size + 1]? = some (.cells #[.int .i64 3, .bool false, .slice none 0 0, .int .u64 B, .string ⟨#[]⟩, .slice none 0 0] 32 (0, 0)) := by rw [hw1]; exact heap2_1 _ _ _
  have l1 := (Array.getElem?_eq_some_iff.1 r1).1
  have l2 := (Array.getElem?_eq_some_iff.1 r2).1
  have HP := Lib.hid (fun (W : World) (hb : Below w1.heap.size w1 W) => (show W.cell? ⟨w.heap.size, 0, none⟩ = some (.int .i64 2) ∧ W.cell? ⟨w.heap.size, 1, none⟩ = some (.bool neg) ∧ W.cell? ⟨w.heap.size, 2, none⟩ = some (.slice a n c) ∧ W.cell? ⟨w.heap.size, 3, none⟩ = some (.int .u64 0) ∧ W.cell? ⟨w.heap.size, 4, none⟩ = some (.string ⟨#[]⟩) ∧ W.cell? ⟨w.heap.size, 5, none⟩ = some (.slice none 0 0) ∧ W.cell? ⟨w.heap.size + 1, 0, none⟩ = some (.int .i64 3) ∧ W.cell? ⟨w.heap.size + 1, 1, none⟩ = some (.bool false) ∧ W.cell? ⟨w.heap.size + 1, 2, none⟩ = some (.slice none 0 0) ∧ W.cell? ⟨w.heap.size + 1, 3, none⟩ = some (.int .u64 B) ∧ W.cell? ⟨w.heap.size + 1, 4, none⟩ = some (.string ⟨#[]⟩) ∧ W.cell? ⟨w.heap.size + 1, 5, none⟩ = some (.slice none 0 0) from ⟨(cell_of_row W _ 0 _ _ (0, 0) ((hb.block _ l1).trans r1)).trans rfl, (cell_of_row W _ 1 _ _ (0, 0) ((hb.block _ l1).trans r1)).trans rfl, (cell_of_row W _ 2 _ _ (0, 0) ((hb.block _ l1).trans r1)).trans rfl, (cell_of_row W _ 3 _ _ (0, 0) ((hb.block _ l1).trans r1)).trans rfl, (cell_of_row W _ 4 _ _ (0, 0) ((hb.block _ l1).trans r1)).trans rfl, (cell_of_row W _ 5 _ _ (0, 0) ((hb.block _ l1).trans r1)).trans rfl, (cell_of_row W _ 0 _ _ (0, 0) ((hb.block _ l2).trans r2)).trans rfl, (cell_of_row W _ 1 _ _ (0, 0) ((hb.block _ l2).trans r2)).trans rfl, (cell_of_row W _ 2 _ _ (0, 0) ((hb.block _ l2).trans r2)).trans rfl, (cell_of_row W _ 3 _ _ (0, 0) ((hb.block _ l2).trans r2)).trans rfl, (cell_of_row W _ 4 _ _ (0, 0) ((hb.block _ l2).trans r2)).trans rfl, (cell_of_row W _ 5 _ _ (0, 0) ((hb.block _ l2).trans r2)).trans rfl⟩))
  have HN1 := Lib.hid (fun (W : World) => number_int neg (.slice a n c) W)
  have HN2 := Lib.hid (fun (W : World) => number_float B W)
  have HCN := Lib.hid (fun (W : World) (hb : Below w1.heap.size w1 W) => cmpNumbers_if neg (.slice a n c) n V B W ((hm.below hb1).below hb) hn hneg hB)
  have HB1 := Lib.hid hb1; have HW1 := Lib.hid hw1
  obtain ⟨cc, hcc⟩ : ∃ cc, cc = fcAll (sI neg V) B := ⟨_, rfl⟩
  rw [← hcc] at HCN ⊢
  clear hm hn hneg hb1 hw1 r1 r2 l1 l2 hcc
  obtain ⟨x0, x1, x2, x3, x4, x5, x6, x7, x8, x9, x10, x11⟩ := HP.out w1 (Below.refl _ _)
  go_enter Tryz.func55, Tryz.ntmps55
  go_wp2_with fail
  rw [← HW1.out]
  go_wp2_with fail
  refine (HN1.out _).mono ?_
  rintro e w2 ⟨rfl, hb2⟩
  have HB2 := Lib.hid hb2
  obtain ⟨y0, y1, y2, y3, y4, y5, y6, y7, y8, y9, y10, y11⟩ := HP.out w2 hb2
  clear hb2
  go_wp2_with fail
  refine (HN2.out _).mono ?_
  rintro e w3 ⟨rfl, hb3⟩
  have hb3u := HB2.out.trans (hb3.mono HB2.out.size)
  have HB3 := Lib.hid hb3u
  obtain ⟨z0, z1, z2, z3, z4, z5, z6, z7, z8, z9, z10, z11⟩ := HP.out w3 hb3u
  clear hb3 hb3u
  go_wp2_with fail
  refine (HCN.out _ HB3.out).mono ?_
  rintro e w4 ⟨rfl, hb4⟩
  have HB4 := Lib.hid (HB3.out.trans (hb4.mono HB3.out.size))
  clear hb4
  go_wp2
  go_ret
  exact ⟨rfl, HB1.out.trans (HB4.out.mono HB1.out.size)⟩

set_option maxRecDepth 100000 in
theorem Equal_fi (neg : Bool) (s : Value) (n V B : Nat) (w : World) (hm : MagAt w s n V) (hn : n ≤ 16777216) (hneg : neg = true → 0 < V) (hB : B < 18446744073709551616) :
    Calls Tryz.prog 55 #[valFloat B, valInt neg s] w fun e w' => e = .returned (.bool ((-(fcAll (sI neg V) B)) == 0)) ∧ Below w.heap.size w w' := by
  obtain ⟨a, c, rfl⟩ := hm.shape
  obtain ⟨w1, hw1⟩ : ∃ w1, w1 = (w.alloc (.cells #[.int .i64 3, .bool false, .slice none 0 0, .int .u64 B, .string ⟨#[]⟩, .slice none 0 0] 32)).alloc (.cells #[.int .i64 2, .bool neg, .slice a n c, .int .u64 0, .string ⟨#[]⟩, .slice none 0 0] 32) := ⟨_, rfl⟩
  have hb1 : Below w.heap.size w w1 := by rw [hw1]; exact ((Below.refl _ _).alloc (Nat.le_refl _) _).alloc (by simp) _
  have r1 : w1.heap[w.heap.size]? = some (.cells #[.int .i64 3, .bool false, .slice none 0 0, .int .u64 B, .string ⟨#[]⟩, .slice none 0 0] 32 (0, 0)) := by rw [hw1]; exact heap2_0 _ _ _
  have r2 : w1.heap[w.heap.size + 1]? = some (.cells #[.int .i64 2, .bool neg, .slice a n c, .int .u64 0, .string ⟨#[]⟩, .slice none 0 0] 32 (0, 0)) := by rw [hw1]; exact heap2_1 _ _ _
  have l1 := (Array.getElem?_eq_some_iff.1 r1).1
  have l2 := (Array.getElem?_eq_some_iff.1 r2).1
  have HP := Lib.hid (fun (W : World) (hb : Below w1.heap.size w1 W) => (show W.cell? ⟨w.heap.size, 0, none⟩ = some (.int .i64 3) ∧ W.cell? ⟨w.heap.size, 1, none⟩ = some (.bool false) ∧ W.cell? ⟨w.heap.size, 2, none⟩ = some (.slice none 0 0) ∧ W.cell? ⟨w.heap.size, 3, none⟩ = some (.int .u64 B) ∧ W.cell? ⟨w.heap.size, 4, none⟩ = some (.string ⟨#[]⟩) ∧ W.cell? ⟨w.heap.size, 5, none⟩ = some (.slice none 0 0) ∧ W.cell? ⟨w.heap.size + 1, 0, none⟩ = some (.int .i64 2) ∧ W.cell? ⟨w.heap.size + 1, 1, none⟩ = some (.bool neg) ∧ W.cell? ⟨w.heap.size + 1, 2, none⟩ = some (.slice a n c) ∧ W.cell? ⟨w.heap.size + 1, 3, none⟩ = some (.int .u64 0) ∧ W.cell? ⟨w.heap.size + 1, 4, none⟩ = some (.string ⟨#[]⟩) ∧ W.cell? ⟨w.heap.size + 1, 5, none⟩ = some (.slice none 0 0) from ⟨(cell_of_row W _ 0 _ _ (0, 0) ((hb.block _ l1).trans r1)).trans rfl, (cell_of_row W _ 1 _ _ (0, 0) ((hb.block _ l1).trans r1)).trans rfl, (cell_of_row W _ 2 _ _ (0, 0) ((hb.block _ l1).trans r1)).trans rfl, (cell_of_row W _ 3 _ _ (0, 0) ((hb.block _ l1).trans r1)).trans rfl, (cell_of_row W _ 4 _ _ (0, 0) ((hb.block _ l1).trans r1)).trans rfl, (cell_of_row W _ 5 _ _ (0, 0) ((hb.block _ l1).trans r1)).trans rfl, (cell_of_row W _ 0 _ _ (0, 0) ((hb.block _ l2).trans r2)).trans rfl, (cell_of_row W _ 1 _ _ (0, 0) ((hb.block _ l2).trans r2)).trans rfl, (cell_of_row W _ 2 _ _ (0, 0) ((hb.block _ l2).trans r2)).trans rfl, (cell_of_row W _ 3 _ _ (0, 0) ((hb.block _ l2).trans r2)).trans rfl, (cell_of_row W _ 4 _ _ (0, 0) ((hb.block _ l2).trans r2)).trans rfl, (cell_of_row W _ 5 _ _ (0, 0) ((hb.block _ l2).trans r2)).trans rfl⟩))
  have HN1 := Lib.hid (fun (W : World) => number_float B W)
  have HN2 := Lib.hid (fun (W : World) => number_int neg (.slice a n c) W)
  have HCN := Lib.hid (fun (W : World) (hb : Below w1.heap.size w1 W) => cmpNumbers_fi neg (.slice a n c) n V B W ((hm.below hb1).below hb) hn hneg hB)
  have HB1 := Lib.hid hb1; have HW1 := Lib.hid hw1
  obtain ⟨cc, hcc⟩ : ∃ cc, cc = -(fcAll (sI neg V) B) := ⟨_, rfl⟩
  rw [← hcc] at HCN ⊢
  clear hm hn hneg hb1 hw1 r1 r2 l1 l2 hcc
  obtain ⟨x0, x1, x2, x3, x4, x5, x6, x7, x8, x9, x10, x11⟩ := HP.out w1 (Below.refl _ _)
  go_enter Tryz.func55, Tryz.ntmps55
  go_wp2_with fail
  rw [← HW1.out]
  go_wp2_with fail
  refine (HN1.out _).mono ?_
  rintro e w2 ⟨rfl, hb2⟩
  have HB2 := Lib.hid hb2
  obtain ⟨y0, y1, y2, y3, y4, y5, y6, y7, y8, y9, y10, y11⟩ := HP.out w2 hb2
  clear hb2
  go_wp2_with fail
  refine (HN2.out _).mono ?_
  rintro e w3 ⟨rfl, hb3⟩
  have hb3u := HB2.out.trans (hb3.mono HB2.out.size)
  have HB3 := Lib.hid hb3u
  obtain ⟨z0, z1, z2, z3, z4, z5, z6, z7, z8, z9, z10, z11⟩ := HP.out w3 hb3u
  clear hb3 hb3u
  go_wp2_with fail
  refine (HCN.out _ HB3.out).mono ?_
  rintro e w4 ⟨rfl, hb4⟩
  have HB4 := Lib.hid (HB3.out.trans (hb4.mono HB3.out.size))
  clear hb4
  go_wp2
  go_ret
  exact ⟨rfl, HB1.out.trans (HB4.out.mono HB1.out.size)⟩

end Go.Proofs.YtpcleebnfgnhdaaGreatDoor
