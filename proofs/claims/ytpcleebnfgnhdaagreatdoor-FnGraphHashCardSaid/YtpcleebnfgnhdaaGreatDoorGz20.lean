import Derived.Test.YtpcleebnfgnhdaaGreatDoorGz19
import Derived.Test.YtpcleebnfgnhdaaGreatDoorGz6
import Derived.Test.YtpcleebnfgnhdaaGreatDoorGz7
import Derived.Test.YtpcleebnfgnhdaaGreatDoorGz2
import Derived.Lib.Bytealg
import Derived.Stop.Asserts
/- Walks: comparing() and threeway(); sameType of an integer and a float. Walks: CompareDepth of an integer and a float, both ways round. Walks: CompareDepth of a float and an integer. Walks: starlark.Compare and impl.Compare of an integer and a float, both ways round. -/
set_option linter.unusedVariables false
set_option linter.unusedSimpArgs false
namespace Go.Proofs.YtpcleebnfgnhdaaGreatDoor
open Go.RowKit
open Num

theorem typeInt (v : Value) (h : ∃ z p, v = .agg #[.int .i64 z, .pointer p]) (w : World) : Calls Tryz.prog 318 #[v] w fun e w' => e = .returned (.string ⟨#[105, 110, 116]⟩) ∧ Below w.heap.size w w' := by
  obtain ⟨z, p, rfl⟩ := h
  go_enter Tryz.func318, Tryz.ntmps318
  go_wp2
  go_ret
  exact ⟨rfl, (Below.refl _ _).alloc (Nat.le_refl _) _⟩
theorem typeFloat (v : Value) (w : World) : Calls Tryz.prog 327 #[v] w fun e w' => e = .returned (.string ⟨#[102, 108, 111, 97, 116]⟩) ∧ Below w.heap.size w w' := by
  go_enter Tryz.func327, Tryz.ntmps327
  go_wp2
  go_ret
  exact ⟨rfl, Below.refl _ _⟩
theorem method_int (v : Value) (w : World) : (method 527 110 v "Type").run Tryz.prog w = .ok (318, v) w := by kernel_rfl
theorem method_float (v : Value) (w : World) : (method 527 112 v "Type").run Tryz.prog w = .ok (327, v) w := by kernel_rfl

set_option maxRecDepth 100000 in
theorem sameType_if (z : Int) (p : Option Addr) (B : Nat) (w : World) : Calls Tryz.prog 162 #[.iface 110 (.agg #[.int .i64 z, .pointer p]), .iface 112 (.float .f64 B)] w fun e w' => e = .returned (.bool false) ∧ Below w.heap.size w w' := by
  have m1 := method_int (.agg #[.int .i64 z, .pointer p])
  have m2 := method_float (.float .f64 B)
  go_enter Tryz.func162, Tryz.ntmps162
  go_wp2_with fail
  refine (typeInt _ ⟨z, p, rfl⟩ _).mono ?_
  rintro e w2 ⟨rfl, hb2⟩
  have HB2 := Lib.hid hb2; clear hb2
  go_wp2_with fail
  refine (typeFloat _ _).mono ?_
  rintro e w3 ⟨rfl, hb3⟩
  have HB3 := Lib.hid hb3; clear hb3
  go_wp2
  go_ret
  exact ⟨rfl, HB2.out.trans (HB3.out.mono HB2.out.size)⟩
set_option maxRecDepth 100000 in
theorem sameType_fi (z : Int) (p : Option Addr) (B : Nat) (w : World) : Calls Tryz.prog 162 #[.iface 112 (.float .f64 B), .iface 110 (.agg #[.int .i64 z, .pointer p])] w fun e w' => e = .returned (.bool false) ∧ Below w.heap.size w w' := by
  have m1 := method_int (.agg #[.int .i64 z, .pointer p])
  have m2 := method_float (.float .f64 B)
  go_enter Tryz.func162, Tryz.ntmps162
  go_wp2_with fail
  refine (typeFloat _ _).mono ?_
  rintro e w2 ⟨rfl, hb2⟩
  have HB2 := Lib.hid hb2; clear hb2
  go_wp2_with fail
  refine (typeInt _ ⟨z, p, rfl⟩ _).mono ?_
  rintro e w3 ⟨rfl, hb3⟩
  have HB3 := Lib.hid hb3; clear hb3
  go_wp2
  go_ret
  exact ⟨rfl, HB2.out.trans (HB3.out.mono HB2.out.size)⟩

theorem threeway_any (op : Nat) (h1 : 13 ≤ op) (h2 : op ≤ 18) (c : Int) (w : World) : Calls Tryz.prog 163 #[.int .i8 (tokOf op), .int .i64 c] w fun e w' => e = .returned (.bool (opHolds op c)) ∧ w' = w := by
  have h : op = 13 ∨ op = 14 ∨ op = 15 ∨ op = 16 ∨ op = 17 ∨ op = 18 := by omega
  rcases h with rfl | rfl | rfl | rfl | rfl | rfl
  all_goals (
    simp only [tokOf, opHolds, if_true, Nat.reduceEqDiff, if_false]
    go_enter Tryz.func163, Tryz.ntmps163
    go_wp2
    go_ret
    exact ⟨by first | rfl | simp, rfl⟩)
end Go.Proofs.YtpcleebnfgnhdaaGreatDoor

set_option linter.unusedVariables false
set_option linter.unusedSimpArgs false
namespace Go.Proofs.YtpcleebnfgnhdaaGreatDoor
open Go.RowKit
open Num

set_option maxRecDepth 100000 in
set_option maxHeartbeats 1000000 in
theorem CompareDepth_if (op : Nat) (h1 : 13 ≤ op) (h2 : op ≤ 18) (v : Value) (base : Nat) (neg : Bool) (V B : Nat) (d : Nat) (hd : 1 ≤ d) (hd2 : d ≤ 1000000) (hB : B < 18446744073709551616) (w : World) (hI : IntIs w base v neg V) (hneg : neg = true → 0 < V) (hn : ∀ n, Nw n V → n ≤ 1048576) (hk : KT w) :
    Calls Tryz.prog 154 #[.int .i8 (tokOf op), .iface 110 v, .iface 112 (.float .f64 B), .int .i64 d] w fun e w' => e = .returned (.tuple #[.bool (opHolds op (fcAll (sI neg V) B)), .nilIface]) ∧ Below w.heap.size w w' := by
  obtain ⟨z, p, rfl⟩ := hI.shape
  have t1 := assert_int_int (.agg #[.int .i64 z, .pointer p])
  have t2 := assert_float_float (.float .f64 B)
  have hdd : decide ((d : Int) < 1) = false := by simp; omega
  obtain ⟨tk, htk⟩ : ∃ tk, tk = tokOf op := ⟨_, rfl⟩
  have HT := Lib.hid (fun c W => threeway_any op h1 h2 c W)
  rw [← htk] at HT ⊢
  have hnn := nan_ne B hB
  have HI := Lib.hid hI; have HN := Lib.hid hn; have HNEG := Lib.hid hneg; have HK := Lib.hid hk
  clear hI hn hneg hk htk h1 h2
  by_cases hnan : fexp B = 2047 ∧ ffrac B ≠ 0
  · have hc : fcAll (sI neg V) B = -1 := by unfold fcAll; rw [if_pos hnan.1, if_pos hnan.2]
    rw [hc]
    have hn2 : decide (fexp B = 2047 ∧ ffrac B ≠ 0) = true := by simpa using hnan
    rw [hn2] at hnn
    clear hnan hn2 hc
    go_enter Tryz.func154, Tryz.ntmps154
    go_wp2_with fail
    refine (sameType_if z p B _).mono ?_
    rintro e w2 ⟨rfl, hb2⟩
    have HB2 := Lib.hid hb2; clear hb2
    go_wp2_with fail
    refine (HT.out _ _).mono ?_
    rintro e w3 ⟨rfl, rfl⟩
    go_wp2
    go_ret2
    exact ⟨rfl, HB2.out.trans ((below_alloc _ _).mono HB2.out.size)⟩
  · have hn2 : decide (fexp B = 2047 ∧ ffrac B ≠ 0) = false := by simpa using hnan
    rw [hn2] at hnn
    have HINF := Lib.hid (fun W : World => IsInf_any B hB hnan W)
    clear hn2
    by_cases hf : fexp B = 2047
    · have hfr : ffrac B = 0 := by
        rcases Nat.eq_zero_or_pos (ffrac B) with h | h
        · exact h
        · exact absurd ⟨hf, by omega⟩ hnan
      have hc : fcAll (sI neg V) B = if fneg B then 1 else -1 := by unfold fcAll; rw [if_pos hf, if_neg (by omega)]
      have hgt := inf_gt B hB hf hfr
      have hdf : decide (fexp B = 2047) = true := by simp [hf]
      rw [hdf] at HINF
      rw [hc]
      clear hnan hfr hc hdf hf
      obtain ⟨fb, hfb⟩ : ∃ fb, fb = fneg B := ⟨_, rfl⟩
      rw [← hfb] at hgt ⊢
      clear hfb
      obtain ⟨gb, hgb⟩ : ∃ gb, gb = !fb := ⟨_, rfl⟩
      rw [← hgb] at hgt
      cases fb <;> simp only [Bool.not_true, Bool.not_false] at hgb <;> subst hgb
      all_goals (
        go_enter Tryz.func154, Tryz.ntmps154
        go_wp2_with fail
        refine (sameType_if z p B _).mono ?_
        rintro e w2 ⟨rfl, hb2⟩
        have HB2 := Lib.hid hb2; clear hb2
        go_wp2_with fail
        refine (HINF.out _).mono ?_
        rintro e w3 ⟨rfl, rfl⟩
        go_wp2_with fail
        refine (HT.out _ _).mono ?_
        rintro e w4 ⟨rfl, rfl⟩
        go_wp2
        go_ret2
        exact ⟨rfl, HB2.out.trans ((below_alloc _ _).mono HB2.out.size)⟩)
    · have hc : fcAll (sI neg V) B = fcmp (sI neg V) B := by unfold fcAll; rw [if_neg hf]
      have hdf : decide (fexp B = 2047) = false := by simp [hf]
      rw [hdf] at HINF
      rw [hc]
      have HFR := Lib.hid (fun W : World => floatRational B hB hf W)
      clear hnan hc hdf hf
      go_enter Tryz.func154, Tryz.ntmps154
      go_wp2_with fail
      refine (sameType_if z p B _).mono ?_
      rintro e w2 ⟨rfl, hb2⟩
      have HB2 := Lib.hid hb2; clear hb2
      go_wp2_with fail
      refine (HINF.out _).mono ?_
      rintro e w3 ⟨rfl, rfl⟩
      go_wp2_with fail
      have hb3 : Below w.heap.size w (w2.alloc (.cells #[.int .i64 z, .pointer p] 110)) := HB2.out.trans ((below_alloc _ _).mono HB2.out.size)
      refine (intRational _ base neg V _ (HI.out.below hb3) HNEG.out HN.out).mono ?_
      rintro e w4 ⟨r1, rfl, hr1, hra1, hb4⟩
      have hb34 := hb3.trans (hb4.mono hb3.size)
      have HB4 := Lib.hid hb34; have HRA1 := Lib.hid hra1
      have HR1 := Lib.hid (show r1 < w4.heap.size from by obtain ⟨_, _, _, _, h, _⟩ := hra1; exact (Array.getElem?_eq_some_iff.1 h).1)
      clear hb3 hb4 hb34 hra1 hr1
      go_wp2_with fail
      refine (HFR.out _).mono ?_
      rintro e w5 ⟨r2, ng, N, D, rfl, hr2, hra2, hng, hcmp, hb5⟩
      have HB5 := Lib.hid hb5
      have HRC := Lib.hid (RatCmp_any r1 r2 neg ng V 1 N D w5 (HRA1.out.below hb5) hra2 HNEG.out hng (HK.out.below (HB4.out.trans (hb5.mono HB4.out.size))))
      have hval : icmp (sI neg V * (D : Int)) (sI ng N * ((1 : Nat) : Int)) = fcmp (sI neg V) B := by
        have := hcmp (sI neg V)
        simpa using this
      rw [hval] at HRC
      clear hb5 hra2 hng hcmp hval hr2
      go_wp2_with fail
      refine HRC.out.mono ?_
      rintro e w6 ⟨rfl, hb6⟩
      have HB6 := Lib.hid hb6; clear hb6
      go_wp2_with fail
      refine (HT.out _ _).mono ?_
      rintro e w7 ⟨rfl, rfl⟩
      go_wp2
      go_ret2
      have b5 := HB4.out.trans (HB5.out.mono HB4.out.size)
      exact ⟨rfl, b5.trans (HB6.out.mono b5.size)⟩
end Go.Proofs.YtpcleebnfgnhdaaGreatDoor

set_option linter.unusedVariables false
set_option linter.unusedSimpArgs false
namespace Go.Proofs.YtpcleebnfgnhdaaGreatDoor
open Go.RowKit
open Num

set_option maxRecDepth 100000 in
set_option maxHeartbeats 1000000 in
theorem CompareDepth_fi (op : Nat) (h1 : 13 ≤ op) (h2 : op ≤ 18) (v : Value) (base : Nat) (neg : Bool) (V B : Nat) (d : Nat) (hd : 1 ≤ d) (hd2 : d ≤ 1000000) (hB : B < 18446744073709551616) (w : World) (hI : IntIs w base v neg V) (hneg : neg = true → 0 < V) (hn : ∀ n, Nw n V → n ≤ 1048576) (hk : KT w) :
    Calls Tryz.prog 154 #[.int .i8 (tokOf op), .iface 112 (.float .f64 B), .iface 110 v, .int .i64 d] w fun e w' => e = .returned (.tuple #[.bool (opHolds op (-(fcAll (sI neg V) B))), .nilIface]) ∧ Below w.heap.size w w' := by
  obtain ⟨z, p, rfl⟩ := hI.shape
  have t1 := assert_int_int (.agg #[.int .i64 z, .pointer p])
  have t2 := assert_float_float (.float .f64 B)
  have t3 := assert_float_int (.float .f64 B)
  have hdd : decide ((d : Int) < 1) = false := by simp; omega
  obtain ⟨tk, htk⟩ : ∃ tk, tk = tokOf op := ⟨_, rfl⟩
  have HT := Lib.hid (fun c W => threeway_any op h1 h2 c W)
  rw [← htk] at HT ⊢
  have hnn := nan_ne B hB
  have HI := Lib.hid hI; have HN := Lib.hid hn; have HNEG := Lib.hid hneg; have HK := Lib.hid hk
  clear hI hn hneg hk htk h1 h2
  by_cases hnan : fexp B = 2047 ∧ ffrac B ≠ 0
  · have hc : fcAll (sI neg V) B = -1 := by unfold fcAll; rw [if_pos hnan.1, if_pos hnan.2]
    rw [hc]
    have hn2 : decide (fexp B = 2047 ∧ ffrac B ≠ 0) = true := by simpa using hnan
    rw [hn2] at hnn
    clear hnan hn2 hc
    go_enter Tryz.func154, Tryz.ntmps154
    go_wp2_with fail
    refine (sameType_fi z p B _).mono ?_
    rintro e w2 ⟨rfl, hb2⟩
    have HB2 := Lib.hid hb2; clear hb2
    go_wp2_with fail
    refine (HT.out _ _).mono ?_
    rintro e w3 ⟨rfl, rfl⟩
    go_wp2
    go_ret2
    exact ⟨rfl, HB2.out.trans ((below_alloc _ _).mono HB2.out.size)⟩
  · have hn2 : decide (fexp B = 2047 ∧ ffrac B ≠ 0) = false := by simpa using hnan
    rw [hn2] at hnn
    have HINF := Lib.hid (fun W : World => IsInf_any B hB hnan W)
    clear hn2
    by_cases hf : fexp B = 2047
    · have hfr : ffrac B = 0 := by
        rcases Nat.eq_zero_or_pos (ffrac B) with h | h
        · exact h
        · exact absurd ⟨hf, by omega⟩ hnan
      have hc : fcAll (sI neg V) B = if fneg B then 1 else -1 := by unfold fcAll; rw [if_pos hf, if_neg (by omega)]
      have hgt := inf_gt B hB hf hfr
      have hdf : decide (fexp B = 2047) = true := by simp [hf]
      rw [hdf] at HINF
      rw [hc]
      clear hnan hfr hc hdf hf
      obtain ⟨fb, hfb⟩ : ∃ fb, fb = fneg B := ⟨_, rfl⟩
      rw [← hfb] at hgt ⊢
      clear hfb
      obtain ⟨gb, hgb⟩ : ∃ gb, gb = !fb := ⟨_, rfl⟩
      rw [← hgb] at hgt
      cases fb <;> simp only [Bool.not_true, Bool.not_false] at hgb <;> subst hgb
      all_goals (
        go_enter Tryz.func154, Tryz.ntmps154
        go_wp2_with fail
        refine (sameType_fi z p B _).mono ?_
        rintro e w2 ⟨rfl, hb2⟩
        have HB2 := Lib.hid hb2; clear hb2
        go_wp2_with fail
        refine (HINF.out _).mono ?_
        rintro e w3 ⟨rfl, rfl⟩
        go_wp2_with fail
        refine (HT.out _ _).mono ?_
        rintro e w4 ⟨rfl, rfl⟩
        go_wp2
        go_ret2
        exact ⟨rfl, HB2.out.trans ((below_alloc _ _).mono HB2.out.size)⟩)
    · have hc : fcAll (sI neg V) B = fcmp (sI neg V) B := by unfold fcAll; rw [if_neg hf]
      have hdf : decide (fexp B = 2047) = false := by simp [hf]
      rw [hdf] at HINF
      rw [hc]
      have HFR := Lib.hid (fun W : World => floatRational B hB hf W)
      clear hnan hc hdf hf
      go_enter Tryz.func154, Tryz.ntmps154
      go_wp2_with fail
      refine (sameType_fi z p B _).mono ?_
      rintro e w2 ⟨rfl, hb2⟩
      have HB2 := Lib.hid hb2; clear hb2
      go_wp2_with fail
      refine (HINF.out _).mono ?_
      rintro e w3 ⟨rfl, rfl⟩
      go_wp2_with fail
      have hb3 : Below w.heap.size w (w2.alloc (.cells #[.int .i64 z, .pointer p] 110)) := HB2.out.trans ((below_alloc _ _).mono HB2.out.size)
      have hc := heap_alloc_new w2 (.cells #[.int .i64 z, .pointer p] 110)
      have hsz : w2.heap.size < (w2.alloc (.cells #[.int .i64 z, .pointer p] 110)).heap.size := by simp
      obtain ⟨W3, hW3⟩ : ∃ W3, W3 = w2.alloc (.cells #[.int .i64 z, .pointer p] 110) := ⟨_, rfl⟩
      rw [← hW3] at hb3 hc hsz ⊢
      have c0 : W3.drew.cell? ⟨w2.heap.size, 0, none⟩ = some (.int .i64 z) := (cell_of_row W3 _ 0 _ _ (0, 0) hc).trans rfl
      have c1 : W3.drew.cell? ⟨w2.heap.size, 1, none⟩ = some (.pointer p) := (cell_of_row W3 _ 1 _ _ (0, 0) hc).trans rfl
      have HB3 := Lib.hid hb3.drew; have HSZ := Lib.hid hsz
      clear hb3 hc hsz hW3
      go_region_law (first | (go_simp; go_at_call 166; refine (HFR.out _).mono ?_; rintro e w5 ⟨r2, ng, N, D, rfl, hr2, hra2, hng, hcmp, hb5⟩; have c0' : w5.cell? ⟨w2.heap.size, 0, none⟩ = some (.int .i64 z) := (hb5.cell (p := ⟨w2.heap.size, 0, none⟩) HSZ.out).trans c0; have c1' : w5.cell? ⟨w2.heap.size, 1, none⟩ = some (.pointer p) := (hb5.cell (p := ⟨w2.heap.size, 1, none⟩) HSZ.out).trans c1; have HB5 := Lib.hid hb5; have HRA2 := Lib.hid hra2; have HNG := Lib.hid hng; have HCMP := Lib.hid hcmp; clear hb5 hra2 hng hcmp hr2) | (go_simp; go_at_call 164; refine (intRational _ base neg V _ (HI.out.below (HB3.out.trans (HB5.out.mono (by have h := HB3.out.size; exact h)))) HNEG.out HN.out).mono ?_; rintro e w6 ⟨r1, rfl, hr1, hra1, hb6⟩; have HB6 := Lib.hid hb6; have HRA1 := Lib.hid hra1; clear hb6 hra1 hr1) | (go_simp; go_at_call 165; have hv : icmp (sI ng N * ((1 : Nat) : Int)) (sI neg V * (D : Int)) = -(fcmp (sI neg V) B) := by { rw [icmp_swap (sI neg V * (D : Int)), Int.natCast_one, Int.mul_one, HCMP.out] }; have HRC := RatCmp_any _ _ ng neg N D V 1 _ (HRA2.out.below HB6.out) HRA1.out HNG.out HNEG.out (HK.out.below (HB3.out.trans ((HB5.out.mono HB3.out.size).trans (HB6.out.mono (Nat.le_trans HB3.out.size HB5.out.size))))); rw [hv] at HRC; refine HRC.mono ?_; rintro e w7 ⟨rfl, hb7⟩; have HB7 := Lib.hid hb7; clear hb7))
      all_goals go_wp2_with fail
      all_goals (
        refine (HT.out _ _).mono ?_
        rintro e w8 ⟨rfl, rfl⟩
        go_wp2
        go_ret2
        have b5 := HB3.out.trans (HB5.out.mono (by have h := HB3.out.size; exact h))
        exact ⟨rfl, b5.trans ((HB6.out.mono b5.size).trans (HB7.out.mono (Nat.le_trans b5.size HB6.out.size)))⟩)
end Go.Proofs.YtpcleebnfgnhdaaGreatDoor

set_option linter.unusedVariables false
set_option linter.unusedSimpArgs false
namespace Go.Proofs.YtpcleebnfgnhdaaGreatDoor
open Go.RowKit
open Num

/-- the limit of a comparison's depth lies in its block -/
def CL (w : World) : Prop := w.cell? ⟨1, 0, none⟩ = some (.int .i64 10)
theorem CL.below {w w' : World} (h : CL w) (hb : Below w.heap.size w w') : CL w' := by
  have hl := World.block_lt_of_cell? w _ h
  exact (hb.cell (p := ⟨1, 0, none⟩) hl).trans h

end Go.Proofs.YtpcleebnfgnhdaaGreatDoor

/- Walks: equality of two values of one type: bools, texts, floats. -/
set_option linter.unusedVariables false
set_option linter.unusedSimpArgs false
namespace Go.Proofs.YtpcleebnfgnhdaaGreatDoor
open Go.RowKit
open Num

theorem threeway_eql (c : Int) (w : World) : Calls Tryz.prog 163 #[.int .i8 37, .int .i64 c] w fun e w' => e = .returned (.bool (c == 0)) ∧ w' = w := by
  go_enter Tryz.func163, Tryz.ntmps163
  go_wp2
  go_ret
  exact ⟨by first | rfl | simp, rfl⟩
theorem must_bool (v : Value) (w : World) : (Instr.typeAssert (.iface 105 v) 59 105 false).run Tryz.prog w = .ok v w := by kernel_rfl
theorem must_str (v : Value) (w : World) : (Instr.typeAssert (.iface 96 v) 59 96 false).run Tryz.prog w = .ok v w := by kernel_rfl
theorem must_byt (v : Value) (w : World) : (Instr.typeAssert (.iface 114 v) 59 114 false).run Tryz.prog w = .ok v w := by kernel_rfl
theorem must_flt (v : Value) (w : World) : (Instr.typeAssert (.iface 112 v) 59 112 false).run Tryz.prog w = .ok v w := by kernel_rfl

theorem Cst_bool (a b : Bool) (D : Int) (w : World) :
    Calls Tryz.prog 305 #[.bool a, .int .i8 37, .iface 105 (.bool b), .int .i64 D] w fun e w' => e = .returned (.tuple #[.bool (a == b), .nilIface]) ∧ w' = w := by
  have m1 := must_bool (.bool b)
  have HA := Lib.hid (fun W : World => b2i_any a W)
  have HB := Lib.hid (fun W : World => b2i_any b W)
  have hz : (((a.toNat : Int) - (b.toNat : Int)) == 0) = (a == b) := by cases a <;> cases b <;> rfl
  have hr : -1 ≤ (a.toNat : Int) - (b.toNat : Int) ∧ (a.toNat : Int) - (b.toNat : Int) ≤ 1 := by cases a <;> cases b <;> decide
  rw [← hz]
  clear hz
  generalize (a.toNat : Int) = x at *
  generalize (b.toNat : Int) = y at *
  have h1 := hr.1
  have h2 := hr.2
  have HT := Lib.hid (fun W : World => threeway_eql (x - y) W)
  clear hr
  go_enter Tryz.func305, Tryz.ntmps305
  go_wp2_with fail
  refine (HA.out _).mono ?_
  rintro e w2 ⟨rfl, rfl⟩
  go_wp2_with fail
  refine (HB.out _).mono ?_
  rintro e w2 ⟨rfl, rfl⟩
  go_wp2_with fail
  refine (HT.out _).mono ?_
  rintro e w2 ⟨rfl, rfl⟩
  go_wp2
  go_ret2
  exact ⟨rfl, rfl⟩

theorem compare_zero : ∀ (a b : List UInt8), (Go.Lib.compareBytes a b == 0) = (a == b)
  | [], [] => rfl
  | [], _ :: _ => rfl
  | _ :: _, [] => rfl
  | a :: l, b :: m => by
    show ((if a < b then -1 else if b < a then 1 else Go.Lib.compareBytes l m) == 0) = (a == b && l == m)
    by_cases h1 : a < b
    · rw [if_pos h1]
      have : (a == b) = false := by
        rw [beq_eq_false_iff_ne]; intro q; subst q; exact absurd h1 (UInt8.lt_irrefl _)
      rw [this]; rfl
    · rw [if_neg h1]
      by_cases h2 : b < a
      · rw [if_pos h2]
        have : (a == b) = false := by
          rw [beq_eq_false_iff_ne]; intro q; subst q; exact absurd h2 (UInt8.lt_irrefl _)
        rw [this]; rfl
      · rw [if_neg h2, compare_zero l m]
        have : a = b := UInt8.le_antisymm (UInt8.not_lt.1 h2) (UInt8.not_lt.1 h1)
        subst this
        simp
theorem bytes_dec (a b : ByteArray) : (Go.Lib.compareBytes a.data.toList b.data.toList == 0) = decide (a = b) := by
  rw [compare_zero, Bool.eq_iff_iff, beq_iff_eq, decide_eq_true_iff]
  constructor
  · intro h
    have := Array.toList_inj.1 h
    cases a; cases b; simp_all
  · intro h; rw [h]

theorem nan_left (A B : Nat) (hA : A < 18446744073709551616) (h : fexp A = 2047 ∧ ffrac A ≠ 0) : Ieee.double.order A B = none := by
  unfold Ieee.Format.order
  rw [read_nan A hA h.1 h.2]
  simp [Ieee.Datum.order]
theorem nan_right (A B : Nat) (hB : B < 18446744073709551616) (h : fexp B = 2047 ∧ ffrac B ≠ 0) : Ieee.double.order A B = none := by
  unfold Ieee.Format.order
  rw [read_nan B hB h.1 h.2]
  cases Ieee.double.read A <;> simp [Ieee.Datum.order]
theorem some_of (A B : Nat) (hA : A < 18446744073709551616) (hB : B < 18446744073709551616) (h1 : ¬ (fexp A = 2047 ∧ ffrac A ≠ 0)) (h2 : ¬ (fexp B = 2047 ∧ ffrac B ≠ 0)) : ∃ o, Ieee.double.order A B = some o := by
  unfold Ieee.Format.order
  have hr : ∀ C, C < 18446744073709551616 → ¬ (fexp C = 2047 ∧ ffrac C ≠ 0) → (∃ s m i, Ieee.double.read C = .number s m i) ∨ ∃ s, Ieee.double.read C = .infinity s := by
    intro C hC h
    by_cases hf : fexp C = 2047
    · have h0 : ffrac C = 0 := Decidable.byContradiction fun q => h ⟨hf, q⟩
      exact .inr ⟨_, read_inf C hC hf h0⟩
    · exact .inl ⟨_, _, _, read_double C hC hf⟩
  rcases hr A hA h1 with ⟨s, m, i, e⟩ | ⟨s, e⟩ <;> rcases hr B hB h2 with ⟨t, n, j, f⟩ | ⟨t, f⟩ <;> rw [e, f]
  · rw [signed_cmp]; exact ⟨_, rfl⟩
  · cases t <;> exact ⟨_, rfl⟩
  · cases s <;> exact ⟨_, rfl⟩
  · cases s <;> cases t <;> exact ⟨_, rfl⟩
theorem self_ok (B : Nat) (hB : B < 18446744073709551616) : (FloatKind.f64.format.order B B == some .eq) = decide (¬ (fexp B = 2047 ∧ ffrac B ≠ 0)) := by
  show (Ieee.double.order B B == some .eq) = _
  rw [order_self B hB]
  split <;> simp_all

set_option maxRecDepth 100000 in
theorem floatCmp_any (A B : Nat) (hA : A < 18446744073709551616) (hB : B < 18446744073709551616) (w : World) :
    Calls Tryz.prog 328 #[.float .f64 A, .float .f64 B] w fun e w' => ∃ c : Int, e = .returned (.int .i64 c) ∧ (c == 0) = feq A B ∧ w' = w := by
  have sA := self_ok A hA
  have sB := self_ok B hB
  by_cases nA : fexp A = 2047 ∧ ffrac A ≠ 0
  · have hn : FloatKind.f64.format.order A B = none := nan_left A B hA nA
    have hf : feq A B = decide (fexp B = 2047 ∧ ffrac B ≠ 0) := by
      unfold feq
      rw [show Ieee.double.order A B = none from hn]
      simp [nA.1, nA.2]
    rw [hf]
    rw [show decide (¬ (fexp A = 2047 ∧ ffrac A ≠ 0)) = false by simp [nA.1, nA.2]] at sA
    by_cases nB : fexp B = 2047 ∧ ffrac B ≠ 0
    · rw [show decide (¬ (fexp B = 2047 ∧ ffrac B ≠ 0)) = false by simp [nB.1, nB.2]] at sB
      rw [show decide (fexp B = 2047 ∧ ffrac B ≠ 0) = true by simp [nB.1, nB.2]]
      clear nA nB hf
      go_enter Tryz.func328, Tryz.ntmps328
      go_wp2
      go_ret
      exact ⟨_, rfl, rfl, rfl⟩
    · rw [show decide (¬ (fexp B = 2047 ∧ ffrac B ≠ 0)) = true from decide_eq_true nB] at sB
      rw [show decide (fexp B = 2047 ∧ ffrac B ≠ 0) = false from decide_eq_false nB]
      clear nA nB hf
      go_enter Tryz.func328, Tryz.ntmps328
      go_wp2
      go_ret
      exact ⟨_, rfl, rfl, rfl⟩
  · rw [show decide (¬ (fexp A = 2047 ∧ ffrac A ≠ 0)) = true from decide_eq_true nA] at sA
    have hf : feq A B = (Ieee.double.order A B == some .eq) := by
      unfold feq
      rw [decide_eq_false nA]; rfl
    rw [hf]
    by_cases nB : fexp B = 2047 ∧ ffrac B ≠ 0
    · have hn : FloatKind.f64.format.order A B = none := nan_right A B hB nB
      rw [show Ieee.double.order A B = none from hn]
      clear nA nB hf sB
      go_enter Tryz.func328, Tryz.ntmps328
      go_wp2
      go_ret
      exact ⟨_, rfl, rfl, rfl⟩
    · obtain ⟨o, ho⟩ := some_of A B hA hB nA nB
      have hn : FloatKind.f64.format.order A B = some o := ho
      rw [ho]
      clear nA nB hf sA sB ho
      cases o
      all_goals
        go_enter Tryz.func328, Tryz.ntmps328
        go_wp2
        go_ret
        exact ⟨_, rfl, rfl, rfl⟩

theorem Cmp_flt (A B : Nat) (hA : A < 18446744073709551616) (hB : B < 18446744073709551616) (D : Int) (w : World) :
    Calls Tryz.prog 322 #[.float .f64 A, .iface 112 (.float .f64 B), .int .i64 D] w fun e w' => ∃ c : Int, e = .returned (.tuple #[.int .i64 c, .nilIface]) ∧ (c == 0) = feq A B ∧ w' = w := by
  have m1 := must_flt (.float .f64 B)
  have HC := Lib.hid (fun W : World => floatCmp_any A B hA hB W)
  go_enter Tryz.func322, Tryz.ntmps322
  go_wp2_with fail
  refine (HC.out _).mono ?_
  rintro e w2 ⟨c, rfl, hc, rfl⟩
  go_wp2
  go_ret2
  exact ⟨_, rfl, hc, rfl⟩

theorem Cst_str (a b : ByteArray) (D : Int) (w : World) :
    Calls Tryz.prog 288 #[.string a, .int .i8 37, .iface 96 (.string b), .int .i64 D] w fun e w' => e = .returned (.tuple #[.bool (decide (a = b)), .nilIface]) ∧ w' = w := by
  have m1 := must_str (.string b)
  rw [← bytes_dec a b]
  have HS := Lib.hid (fun W : World => Tryz.strings_Compare a b W)
  have HT := Lib.hid (fun W : World => threeway_eql (Lib.compareBytes a.data.toList b.data.toList) W)
  go_enter Tryz.func288, Tryz.ntmps288
  go_wp2_with fail
  refine (HS.out _).mono ?_
  rintro e w2 ⟨rfl, rfl⟩
  go_wp2_with fail
  refine (HT.out _).mono ?_
  rintro e w2 ⟨rfl, rfl⟩
  go_wp2
  go_ret2
  exact ⟨rfl, rfl⟩
theorem Cst_byt (a b : ByteArray) (D : Int) (w : World) :
    Calls Tryz.prog 334 #[.string a, .int .i8 37, .iface 114 (.string b), .int .i64 D] w fun e w' => e = .returned (.tuple #[.bool (decide (a = b)), .nilIface]) ∧ w' = w := by
  have m1 := must_byt (.string b)
  rw [← bytes_dec a b]
  have HS := Lib.hid (fun W : World => Tryz.strings_Compare a b W)
  have HT := Lib.hid (fun W : World => threeway_eql (Lib.compareBytes a.data.toList b.data.toList) W)
  go_enter Tryz.func334, Tryz.ntmps334
  go_wp2_with fail
  refine (HS.out _).mono ?_
  rintro e w2 ⟨rfl, rfl⟩
  go_wp2_with fail
  refine (HT.out _).mono ?_
  rintro e w2 ⟨rfl, rfl⟩
  go_wp2
  go_ret2
  exact ⟨rfl, rfl⟩
end Go.Proofs.YtpcleebnfgnhdaaGreatDoor

/- Walks: the name of a value's type; sameType. -/
set_option linter.unusedVariables false
set_option linter.unusedSimpArgs false
namespace Go.Proofs.YtpcleebnfgnhdaaGreatDoor
open Go.RowKit
open Num

theorem ty_none (v : Value) (w : World) : Calls Tryz.prog 304 #[v] w fun e w' => e = .returned (.string ⟨#[78, 111, 110, 101, 84, 121, 112, 101]⟩) ∧ Below w.heap.size w w' := by
  go_enter Tryz.func304, Tryz.ntmps304
  go_wp2
  go_ret
  exact ⟨rfl, Below.refl _ _⟩
theorem type_of_none (v : Value) (w : World) : (method 527 104 v "Type").run Tryz.prog w = .ok (304, v) w := by kernel_rfl
theorem enty_none (a : Array Value) (w : World) : (callFunc 304 a).run Tryz.prog w = .ok (.enter 304 a) w := by kernel_rfl
theorem ty_bool (v : Value) (w : World) : Calls Tryz.prog 310 #[v] w fun e w' => e = .returned (.string ⟨#[98, 111, 111, 108]⟩) ∧ Below w.heap.size w w' := by
  go_enter Tryz.func310, Tryz.ntmps310
  go_wp2
  go_ret
  exact ⟨rfl, Below.refl _ _⟩
theorem type_of_bool (v : Value) (w : World) : (method 527 105 v "Type").run Tryz.prog w = .ok (310, v) w := by kernel_rfl
theorem enty_bool (a : Array Value) (w : World) : (callFunc 310 a).run Tryz.prog w = .ok (.enter 310 a) w := by kernel_rfl
theorem ty_int (v : Value) (h : ∃ z p, v = .agg #[.int .i64 z, .pointer p]) (w : World) : Calls Tryz.prog 318 #[v] w fun e w' => e = .returned (.string ⟨#[105, 110, 116]⟩) ∧ Below w.heap.size w w' := by
  obtain ⟨z, p, rfl⟩ := h
  go_enter Tryz.func318, Tryz.ntmps318
  go_wp2
  go_ret
  exact ⟨rfl, (Below.refl _ _).alloc (Nat.le_refl _) _⟩
theorem type_of_int (v : Value) (w : World) : (method 527 110 v "Type").run Tryz.prog w = .ok (318, v) w := by kernel_rfl
theorem enty_int (a : Array Value) (w : World) : (callFunc 318 a).run Tryz.prog w = .ok (.enter 318 a) w := by kernel_rfl
theorem ty_flt (v : Value) (w : World) : Calls Tryz.prog 327 #[v] w fun e w' => e = .returned (.string ⟨#[102, 108, 111, 97, 116]⟩) ∧ Below w.heap.size w w' := by
  go_enter Tryz.func327, Tryz.ntmps327
  go_wp2
  go_ret
  exact ⟨rfl, Below.refl _ _⟩
theorem type_of_flt (v : Value) (w : World) : (method 527 112 v "Type").run Tryz.prog w = .ok (327, v) w := by kernel_rfl
theorem enty_flt (a : Array Value) (w : World) : (callFunc 327 a).run Tryz.prog w = .ok (.enter 327 a) w := by kernel_rfl
theorem ty_str (v : Value) (w : World) : Calls Tryz.prog 293 #[v] w fun e w' => e = .returned (.string ⟨#[115, 116, 114, 105, 110, 103]⟩) ∧ Below w.heap.size w w' := by
  go_enter Tryz.func293, Tryz.ntmps293
  go_wp2
  go_ret
  exact ⟨rfl, Below.refl _ _⟩
theorem type_of_str (v : Value) (w : World) : (method 527 96 v "Type").run Tryz.prog w = .ok (293, v) w := by kernel_rfl
theorem enty_str (a : Array Value) (w : World) : (callFunc 293 a).run Tryz.prog w = .ok (.enter 293 a) w := by kernel_rfl
theorem ty_byt (v : Value) (w : World) : Calls Tryz.prog 340 #[v] w fun e w' => e = .returned (.string ⟨#[98, 121, 116, 101, 115]⟩) ∧ Below w.heap.size w w' := by
  go_enter Tryz.func340, Tryz.ntmps340
  go_wp2
  go_ret
  exact ⟨rfl, Below.refl _ _⟩
theorem type_of_byt (v : Value) (w : World) : (method 527 114 v "Type").run Tryz.prog w = .ok (340, v) w := by kernel_rfl
theorem enty_byt (a : Array Value) (w : World) : (callFunc 340 a).run Tryz.prog w = .ok (.enter 340 a) w := by kernel_rfl
theorem ty_tup (v : Value) (w : World) : Calls Tryz.prog 355 #[v] w fun e w' => e = .returned (.string ⟨#[116, 117, 112, 108, 101]⟩) ∧ Below w.heap.size w w' := by
  go_enter Tryz.func355, Tryz.ntmps355
  go_wp2
  go_ret
  exact ⟨rfl, Below.refl _ _⟩
theorem type_of_tup (v : Value) (w : World) : (method 527 121 v "Type").run Tryz.prog w = .ok (355, v) w := by kernel_rfl
theorem enty_tup (a : Array Value) (w : World) : (callFunc 355 a).run Tryz.prog w = .ok (.enter 355 a) w := by kernel_rfl
theorem ty_lst (v : Value) (w : World) : Calls Tryz.prog 347 #[v] w fun e w' => e = .returned (.string ⟨#[108, 105, 115, 116]⟩) ∧ Below w.heap.size w w' := by
  go_enter Tryz.func347, Tryz.ntmps347
  go_wp2
  go_ret
  exact ⟨rfl, Below.refl _ _⟩
theorem type_of_lst (v : Value) (w : World) : (method 527 115 v "Type").run Tryz.prog w = .ok (347, v) w := by kernel_rfl
theorem enty_lst (a : Array Value) (w : World) : (callFunc 347 a).run Tryz.prog w = .ok (.enter 347 a) w := by kernel_rfl
theorem ty_dic (v : Value) (w : World) : Calls Tryz.prog 361 #[v] w fun e w' => e = .returned (.string ⟨#[100, 105, 99, 116]⟩) ∧ Below w.heap.size w w' := by
  go_enter Tryz.func361, Tryz.ntmps361
  go_wp2
  go_ret
  exact ⟨rfl, Below.refl _ _⟩
theorem type_of_dic (v : Value) (w : World) : (method 527 122 v "Type").run Tryz.prog w = .ok (361, v) w := by kernel_rfl
theorem enty_dic (a : Array Value) (w : World) : (callFunc 361 a).run Tryz.prog w = .ok (.enter 361 a) w := by kernel_rfl
theorem ty_set (v : Value) (w : World) : Calls Tryz.prog 370 #[v] w fun e w' => e = .returned (.string ⟨#[115, 101, 116]⟩) ∧ Below w.heap.size w w' := by
  go_enter Tryz.func370, Tryz.ntmps370
  go_wp2
  go_ret
  exact ⟨rfl, Below.refl _ _⟩
theorem type_of_set (v : Value) (w : World) : (method 527 124 v "Type").run Tryz.prog w = .ok (370, v) w := by kernel_rfl
theorem enty_set (a : Array Value) (w : World) : (callFunc 370 a).run Tryz.prog w = .ok (.enter 370 a) w := by kernel_rfl

/-- a value's Type, called through the interface, answers s -/
def TypeIs (v : Value) (w : World) (s : ByteArray) : Prop :=
  ∃ t u f, v = .iface t u ∧ (∀ W : World, (method 527 t u "Type").run Tryz.prog W = .ok (f, u) W) ∧ (∀ (a : Array Value) (W : World), (callFunc f a).run Tryz.prog W = .ok (.enter f a) W) ∧
    Calls Tryz.prog f #[u] w fun e w' => e = .returned (.string s) ∧ Below w.heap.size w w'
def tname : Tr → ByteArray
  | .non => ⟨#[78, 111, 110, 101, 84, 121, 112, 101]⟩
  | .bool _ => ⟨#[98, 111, 111, 108]⟩
  | .int _ _ => ⟨#[105, 110, 116]⟩
  | .flt _ => ⟨#[102, 108, 111, 97, 116]⟩
  | .str _ => ⟨#[115, 116, 114, 105, 110, 103]⟩
  | .byt _ => ⟨#[98, 121, 116, 101, 115]⟩
  | .tup _ => ⟨#[116, 117, 112, 108, 101]⟩
  | .lst _ => ⟨#[108, 105, 115, 116]⟩
  | .dic _ => ⟨#[100, 105, 99, 116]⟩
  | .set _ => ⟨#[115, 101, 116]⟩
theorem tname_eq (x y : Tr) : ((tname x).toList == (tname y).toList) = decide (x.kind = y.kind) := by
  rw [← beq_toListBytes]
  cases x <;> cases y <;> rfl
theorem Type_any (d : Nat) (v : Value) (T : Tr) (w : World) (h : StarAt w (d + 1) v T) : TypeIs v w (tname T) := by
  cases T with
  | non => obtain rfl := h; exact ⟨_, _, _, rfl, type_of_none _, enty_none, ty_none _ w⟩
  | bool b => obtain rfl := h; exact ⟨_, _, _, rfl, type_of_bool _, enty_bool, ty_bool _ w⟩
  | int n V => obtain ⟨u, rfl, h1, h2, h3⟩ := h; exact ⟨_, _, _, rfl, type_of_int _, enty_int, ty_int u h1.shape w⟩
  | flt B => obtain ⟨rfl, hB⟩ := h; exact ⟨_, _, _, rfl, type_of_flt _, enty_flt, ty_flt _ w⟩
  | str s => obtain ⟨rfl, hB⟩ := h; exact ⟨_, _, _, rfl, type_of_str _, enty_str, ty_str _ w⟩
  | byt s => obtain ⟨rfl, hB⟩ := h; exact ⟨_, _, _, rfl, type_of_byt _, enty_byt, ty_byt _ w⟩
  | tup l => obtain ⟨s, rfl, h1⟩ := h; exact ⟨_, _, _, rfl, type_of_tup _, enty_tup, ty_tup _ w⟩
  | lst l => obtain ⟨b, s, rfl, h1⟩ := h; exact ⟨_, _, _, rfl, type_of_lst _, enty_lst, ty_lst _ w⟩
  | dic l => obtain ⟨b, rfl, h1⟩ := h; exact ⟨_, _, _, rfl, type_of_dic _, enty_dic, ty_dic _ w⟩
  | set l => obtain ⟨b, rfl, h1⟩ := h; exact ⟨_, _, _, rfl, type_of_set _, enty_set, ty_set _ w⟩

set_option maxRecDepth 100000 in
theorem sameType_any (d e : Nat) (x y : Value) (X Y : Tr) (w : World) (hx : StarAt w (d + 1) x X) (hy : StarAt w (e + 1) y Y) :
    Calls Tryz.prog 162 #[x, y] w fun e w' => e = .returned (.bool (decide (X.kind = Y.kind))) ∧ Below w.heap.size w w' := by
  obtain ⟨t1, u1, f1, rfl, m1, e1, c1⟩ := Type_any d x X w hx
  have HY := Lib.hid (fun (W : World) (hb : Below w.heap.size w W) => Type_any e y Y W (hy.below hb))
  obtain ⟨t2, u2, f2, rfl, m2, e2, _⟩ := HY.out w (Below.refl _ _)
  have HY2 : Hid (∀ W : World, Below w.heap.size w W → Calls Tryz.prog f2 #[u2] W fun e w' => e = .returned (.string (tname Y)) ∧ Below W.heap.size W w') := Lib.hid (fun W hb => by
    obtain ⟨t3, u3, f3, q, m3, e3, c3⟩ := HY.out W hb
    injection q with q1 q2
    subst q1; subst q2
    have h1 := m2 W
    rw [m3 W] at h1
    injection h1 with h1 h2
    injection h1 with h1 h2
    subst h1
    exact c3)
  have C1 := Lib.hid c1
  have hd := tname_eq X Y
  have HD := Lib.hid hd
  clear c1 HY hd hx hy
  generalize tname X = sx at *
  generalize tname Y = sy at *
  generalize decide (X.kind = Y.kind) = dd at *
  go_enter Tryz.func162, Tryz.ntmps162
  go_wp2_with fail
  refine C1.out.mono ?_
  rintro e w2 ⟨rfl, hb2⟩
  have HB2 := Lib.hid hb2; clear hb2
  go_wp2_with fail
  refine (HY2.out _ HB2.out).mono ?_
  rintro e w3 ⟨rfl, hb3⟩
  have HB3 := Lib.hid hb3; clear hb3
  go_wp2
  go_ret
  exact ⟨by rw [← HD.out]; rfl, HB2.out.trans (HB3.out.mono HB2.out.size)⟩
end Go.Proofs.YtpcleebnfgnhdaaGreatDoor

/- Walks: CompareDepth, by the kinds of the two values. -/
set_option linter.unusedVariables false
set_option linter.unusedSimpArgs false
namespace Go.Proofs.YtpcleebnfgnhdaaGreatDoor
open Go.RowKit
open Num

theorem comp_bool (v : Value) (w : World) : (Instr.typeAssert (.iface 105 v) 59 291 true).run Tryz.prog w = .ok (.tuple #[.iface 105 v, .bool true]) w := by kernel_rfl
theorem comp_str (v : Value) (w : World) : (Instr.typeAssert (.iface 96 v) 59 291 true).run Tryz.prog w = .ok (.tuple #[.iface 96 v, .bool true]) w := by kernel_rfl
theorem comp_byt (v : Value) (w : World) : (Instr.typeAssert (.iface 114 v) 59 291 true).run Tryz.prog w = .ok (.tuple #[.iface 114 v, .bool true]) w := by kernel_rfl
theorem comp_tup (v : Value) (w : World) : (Instr.typeAssert (.iface 121 v) 59 291 true).run Tryz.prog w = .ok (.tuple #[.iface 121 v, .bool true]) w := by kernel_rfl
theorem comp_lst (v : Value) (w : World) : (Instr.typeAssert (.iface 115 v) 59 291 true).run Tryz.prog w = .ok (.tuple #[.iface 115 v, .bool true]) w := by kernel_rfl
theorem comp_dic (v : Value) (w : World) : (Instr.typeAssert (.iface 122 v) 59 291 true).run Tryz.prog w = .ok (.tuple #[.iface 122 v, .bool true]) w := by kernel_rfl
theorem comp_set (v : Value) (w : World) : (Instr.typeAssert (.iface 124 v) 59 291 true).run Tryz.prog w = .ok (.tuple #[.iface 124 v, .bool true]) w := by kernel_rfl
theorem comp_none (v : Value) (w : World) : (Instr.typeAssert (.iface 104 v) 59 291 true).run Tryz.prog w = .ok (.tuple #[.nilIface, .bool false]) w :=
  run_typeAssert_lacksB (want := (Tryz.prog.underlying 291).elim #[] (fun d => match d with | .interface ms => ms | _ => #[])) (by kernel_rfl) (by kernel_rfl) (by kernel_rfl) v _ w
theorem comp_int (v : Value) (w : World) : (Instr.typeAssert (.iface 110 v) 59 291 true).run Tryz.prog w = .ok (.tuple #[.nilIface, .bool false]) w :=
  run_typeAssert_lacksB (want := (Tryz.prog.underlying 291).elim #[] (fun d => match d with | .interface ms => ms | _ => #[])) (by kernel_rfl) (by kernel_rfl) (by kernel_rfl) v _ w
theorem comp_flt (v : Value) (w : World) : (Instr.typeAssert (.iface 112 v) 59 291 true).run Tryz.prog w = .ok (.tuple #[.nilIface, .bool false]) w :=
  run_typeAssert_lacksB (want := (Tryz.prog.underlying 291).elim #[] (fun d => match d with | .interface ms => ms | _ => #[])) (by kernel_rfl) (by kernel_rfl) (by kernel_rfl) v _ w
theorem tot_none (v : Value) (w : World) : (Instr.typeAssert (.iface 104 v) 59 295 true).run Tryz.prog w = .ok (.tuple #[.nilIface, .bool false]) w :=
  run_typeAssert_lacksB (want := (Tryz.prog.underlying 295).elim #[] (fun d => match d with | .interface ms => ms | _ => #[])) (by kernel_rfl) (by kernel_rfl) (by kernel_rfl) v _ w
theorem tot_int (v : Value) (w : World) : (Instr.typeAssert (.iface 110 v) 59 295 true).run Tryz.prog w = .ok (.tuple #[.iface 110 v, .bool true]) w := by kernel_rfl
theorem tot_flt (v : Value) (w : World) : (Instr.typeAssert (.iface 112 v) 59 295 true).run Tryz.prog w = .ok (.tuple #[.iface 112 v, .bool true]) w := by kernel_rfl

set_option maxRecDepth 100000 in
set_option maxHeartbeats 1000000 in
/-- two values of one type that has CompareSameType -/
theorem CompareDepth_same (d e D : Nat) (hD : 1 ≤ D) (t f : Nat) (u y : Value) (X Y : Tr) (r : Bool) (w : World) (hx : StarAt w (d + 1) (.iface t u) X) (hy : StarAt w (e + 1) y Y) (hk : X.kind = Y.kind)
    (ha : ∀ W : World, (Instr.typeAssert (.iface t u) 59 291 true).run Tryz.prog W = .ok (.tuple #[.iface t u, .bool true]) W)
    (hm : ∀ W : World, (method 527 t u "CompareSameType").run Tryz.prog W = .ok (f, u) W) (hen : ∀ (a : Array Value) (W : World), (callFunc f a).run Tryz.prog W = .ok (.enter f a) W)
    (hc : ∀ W : World, Below w.heap.size w W → Calls Tryz.prog f #[u, .int .i8 37, y, .int .i64 D] W fun e w' => e = .returned (.tuple #[.bool r, .nilIface]) ∧ Below W.heap.size W w') :
    Calls Tryz.prog 154 #[.int .i8 37, .iface t u, y, .int .i64 D] w fun e w' => e = .returned (.tuple #[.bool r, .nilIface]) ∧ Below w.heap.size w w' := by
  have HST := Lib.hid (sameType_any d e (.iface t u) y X Y w hx hy)
  rw [decide_eq_true hk] at HST
  have HC := Lib.hid hc
  have hD1 : (1 : Int) ≤ (D : Int) := by omega
  have hD2 : ¬ ((D : Int) < 1) := by omega
  clear hx hy hk hc
  go_enter Tryz.func154, Tryz.ntmps154
  go_wp2_with fail
  refine HST.out.mono ?_
  rintro e w2 ⟨rfl, hb2⟩
  have HB2 := Lib.hid hb2; clear hb2
  go_wp2_with fail
  refine (HC.out _ HB2.out).mono ?_
  rintro e w3 ⟨rfl, hb3⟩
  have HB3 := Lib.hid hb3; clear hb3
  go_wp2
  go_ret2
  exact ⟨rfl, HB2.out.trans (HB3.out.mono HB2.out.size)⟩
end Go.Proofs.YtpcleebnfgnhdaaGreatDoor
