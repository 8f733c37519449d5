/- Walks: comparing() and threeway(); sameType of an integer and a float. Walks: CompareDepth of an integer and a float, both ways round. Walks: CompareDepth of a float and an integer. Walks: starlark.Compare and impl.Compare of an integer and a float, both ways round. -/
import Derived.Test.YtgohhebffcldeaaGreatDoorRatE
set_option linter.unusedVariables false
set_option linter.unusedSimpArgs false
namespace Go.Proofs.YtgohhebffcldeaaGreatDoor
open Go.RowKit
open Num

theorem typeInt (v : Value) (h : ∃ z p, v = .agg #[.int .i64 z, .pointer p]) (w : World) : Calls Tryz.prog 308 #[v] w fun e w' => e = .returned (.string ⟨#[105, 110, 116]⟩) ∧ Below w.heap.size w w' := by
  obtain ⟨z, p, rfl⟩ := h
  go_enter Tryz.func308, Tryz.ntmps308
  go_wp2
  go_ret
  exact ⟨rfl, (Below.refl _ _).alloc (Nat.le_refl _) _⟩
theorem typeFloat (v : Value) (w : World) : Calls Tryz.prog 317 #[v] w fun e w' => e = .returned (.string ⟨#[102, 108, 111, 97, 116]⟩) ∧ Below w.heap.size w w' := by
  go_enter Tryz.func317, Tryz.ntmps317
  go_wp2
  go_ret
  exact ⟨rfl, Below.refl _ _⟩
theorem method_int (v : Value) (w : World) : (method 524 97 v "Type").run Tryz.prog w = .ok (308, v) w := by kernel_rfl
theorem method_float (v : Value) (w : World) : (method 524 99 v "Type").run Tryz.prog w = .ok (317, v) w := by kernel_rfl

set_option maxRecDepth 100000 in
theorem sameType_if (z : Int) (p : Option Addr) (B : Nat) (w : World) : Calls Tryz.prog 120 #[.iface 97 (.agg #[.int .i64 z, .pointer p]), .iface 99 (.float .f64 B)] w fun e w' => e = .returned (.bool false) ∧ Below w.heap.size w w' := by
  have m1 := method_int (.agg #[.int .i64 z, .pointer p])
  have m2 := method_float (.float .f64 B)
  go_enter Tryz.func120, Tryz.ntmps120
  go_wp2_with fail
  refine (typeInt _ ⟨z, p, rfl⟩ _).mono ?_
  rintro e w2 ⟨rfl, hb2⟩
  have HB2 := Lib.hid hb2; clear hb2
  go_wp2_with fail
  refine (typeFloat _ _).mono ?_
  rintro e w3 ⟨rfl, hb3⟩
  have HB3 := Lib.hid hb3; clear hb3
  go_wp2
  go_ret
  exact ⟨rfl, HB2.out.trans (HB3.out.mono HB2.out.size)⟩
set_option maxRecDepth 100000 in
theorem sameType_fi (z : Int) (p : Option Addr) (B : Nat) (w : World) : Calls Tryz.prog 120 #[.iface 99 (.float .f64 B), .iface 97 (.agg #[.int .i64 z, .pointer p])] w fun e w' => e = .returned (.bool false) ∧ Below w.heap.size w w' := by
  have m1 := method_int (.agg #[.int .i64 z, .pointer p])
  have m2 := method_float (.float .f64 B)
  go_enter Tryz.func120, Tryz.ntmps120
  go_wp2_with fail
  refine (typeFloat _ _).mono ?_
  rintro e w2 ⟨rfl, hb2⟩
  have HB2 := Lib.hid hb2; clear hb2
  go_wp2_with fail
  refine (typeInt _ ⟨z, p, rfl⟩ _).mono ?_
  rintro e w3 ⟨rfl, hb3⟩
  have HB3 := Lib.hid hb3; clear hb3
  go_wp2
  go_ret
  exact ⟨rfl, HB2.out.trans (HB3.out.mono HB2.out.size)⟩

/-- the token of a comparison's number -/
def tokOf (op : Nat) : Int := if op = 13 then 37 else if op = 14 then 38 else if op = 15 then 33 else if op = 16 then 36 else if op = 17 then 34 else 35
/-- what an order tells to an operator -/
def opHolds (op : Nat) (c : Int) : Bool := if op = 13 then c == 0 else if op = 14 then c != 0 else if op = 15 then decide (c < 0) else if op = 16 then decide (c ≤ 0) else if op = 17 then decide (0 < c) else decide (0 ≤ c)

theorem comparing_any (op : Nat) (h1 : 13 ≤ op) (h2 : op ≤ 18) (w : World) : Calls Tryz.prog 39 #[.int .i64 op] w fun e w' => e = .returned (.tuple #[.int .i8 (tokOf op), .bool true]) ∧ Below w.heap.size w w' := by
  have h : op = 13 ∨ op = 14 ∨ op = 15 ∨ op = 16 ∨ op = 17 ∨ op = 18 := by omega
  rcases h with rfl | rfl | rfl | rfl | rfl | rfl
  all_goals (
    go_enter Tryz.func39, Tryz.ntmps39
    go_wp2
    go_ret2
    exact ⟨rfl, (Below.refl _ _).alloc (Nat.le_refl _) _⟩)
theorem threeway_any (op : Nat) (h1 : 13 ≤ op) (h2 : op ≤ 18) (c : Int) (w : World) : Calls Tryz.prog 121 #[.int .i8 (tokOf op), .int .i64 c] w fun e w' => e = .returned (.bool (opHolds op c)) ∧ w' = w := by
  have h : op = 13 ∨ op = 14 ∨ op = 15 ∨ op = 16 ∨ op = 17 ∨ op = 18 := by omega
  rcases h with rfl | rfl | rfl | rfl | rfl | rfl
  all_goals (
    simp only [tokOf, opHolds, if_true, Nat.reduceEqDiff, if_false]
    go_enter Tryz.func121, Tryz.ntmps121
    go_wp2
    go_ret
    exact ⟨by first | rfl | simp, rfl⟩)
end Go.Proofs.YtgohhebffcldeaaGreatDoor

set_option linter.unusedVariables false
set_option linter.unusedSimpArgs false
namespace Go.Proofs.YtgohhebffcldeaaGreatDoor
open Go.RowKit
open Num

/-- an integer against any float: what is no number, and +Inf, are above all -/
def fcAll (x : Int) (B : Nat) : Int := if fexp B = 2047 then (if ffrac B ≠ 0 then -1 else if fneg B then 1 else -1) else fcmp x B

theorem inf_gt (B : Nat) (hB : B < 18446744073709551616) (hf : fexp B = 2047) (h0 : ffrac B = 0) : (FloatKind.f64.format.order B 0 == some .gt) = !fneg B := by
  show (Ieee.double.order B 0 == some .gt) = !fneg B
  unfold Ieee.Format.order
  rw [read_inf B hB hf h0, read_zero]
  cases fneg B <;> rfl
theorem nan_ne (B : Nat) (hB : B < 18446744073709551616) : (FloatKind.f64.format.order B B != some .eq) = decide (fexp B = 2047 ∧ ffrac B ≠ 0) := by
  show (Ieee.double.order B B != some .eq) = _
  rw [order_self B hB]
  split <;> simp_all

set_option maxRecDepth 100000 in
set_option maxHeartbeats 1000000 in
theorem CompareDepth_if (op : Nat) (h1 : 13 ≤ op) (h2 : op ≤ 18) (v : Value) (base : Nat) (neg : Bool) (V B : Nat) (d : Nat) (hd : 1 ≤ d) (hd2 : d ≤ 1000000) (hB : B < 18446744073709551616) (w : World) (hI : IntIs w base v neg V) (hneg : neg = true → 0 < V) (hn : ∀ n, Nw n V → n ≤ 1048576) (hk : KT w) :
    Calls Tryz.prog 80 #[.int .i8 (tokOf op), .iface 97 v, .iface 99 (.float .f64 B), .int .i64 d] w fun e w' => e = .returned (.tuple #[.bool (opHolds op (fcAll (sI neg V) B)), .nilIface]) ∧ Below w.heap.size w w' := by
  obtain ⟨z, p, rfl⟩ := hI.shape
  have t1 := assert_int_int (.agg #[.int .i64 z, .pointer p])
  have t2 := assert_float_float (.float .f64 B)
  have hdd : decide ((d : Int) < 1) = false := by simp; omega
  obtain ⟨tk, htk⟩ : ∃ tk, tk = tokOf op := ⟨_, rfl⟩
  have HT := Lib.hid (fun c W => threeway_any op h1 h2 c W)
  rw [← htk] at HT ⊢
  have hnn := nan_ne B hB
  have HI := Lib.hid hI; have HN := Lib.hid hn; have HNEG := Lib.hid hneg; have HK := Lib.hid hk
  clear hI hn hneg hk htk h1 h2
  by_cases hnan : fexp B = 2047 ∧ ffrac B ≠ 0
  · have hc : fcAll (sI neg V) B = -1 := by unfold fcAll; rw [if_pos hnan.1, if_pos hnan.2]
    rw [hc]
    have hn2 : decide (fexp B = 2047 ∧ ffrac B ≠ 0) = true := by simpa using hnan
    rw [hn2] at hnn
    clear hnan hn2 hc
    go_enter Tryz.func80, Tryz.ntmps80
    go_wp2_with fail
    refine (sameType_if z p B _).mono ?_
    rintro e w2 ⟨rfl, hb2⟩
    have HB2 := Lib.hid hb2; clear hb2
    go_wp2_with fail
    refine (HT.out _ _).mono ?_
    rintro e w3 ⟨rfl, rfl⟩
    go_wp2
    go_ret2
    exact ⟨rfl, HB2.out.trans ((below_alloc _ _).mono HB2.out.size)⟩
  · have hn2 : decide (fexp B = 2047 ∧ ffrac B ≠ 0) = false := by simpa using hnan
    rw [hn2] at hnn
    have HINF := Lib.hid (fun W : World => IsInf_any B hB hnan W)
    clear hn2
    by_cases hf : fexp B = 2047
    · have hfr : ffrac B = 0 := by
        rcases Nat.eq_zero_or_pos (ffrac B) with h | h
        · exact h
        · exact absurd ⟨hf, by omega⟩ hnan
      have hc : fcAll (sI neg V) B = if fneg B then 1 else -1 := by unfold fcAll; rw [if_pos hf, if_neg (by omega)]
      have hgt := inf_gt B hB hf hfr
      have hdf : decide (fexp B = 2047) = true := by simp [hf]
      rw [hdf] at HINF
      rw [hc]
      clear hnan hfr hc hdf hf
      obtain ⟨fb, hfb⟩ : ∃ fb, fb = fneg B := ⟨_, rfl⟩
      rw [← hfb] at hgt ⊢
      clear hfb
      obtain ⟨gb, hgb⟩ : ∃ gb, gb = !fb := ⟨_, rfl⟩
      rw [← hgb] at hgt
      cases fb <;> simp only [Bool.not_true, Bool.not_false] at hgb <;> subst hgb
      all_goals (
        go_enter Tryz.func80, Tryz.ntmps80
        go_wp2_with fail
        refine (sameType_if z p B _).mono ?_
        rintro e w2 ⟨rfl, hb2⟩
        have HB2 := Lib.hid hb2; clear hb2
        go_wp2_with fail
        refine (HINF.out _).mono ?_
        rintro e w3 ⟨rfl, rfl⟩
        go_wp2_with fail
        refine (HT.out _ _).mono ?_
        rintro e w4 ⟨rfl, rfl⟩
        go_wp2
        go_ret2
        exact ⟨rfl, HB2.out.trans ((below_alloc _ _).mono HB2.out.size)⟩)
    · have hc : fcAll (sI neg V) B = fcmp (sI neg V) B := by unfold fcAll; rw [if_neg hf]
      have hdf : decide (fexp B = 2047) = false := by simp [hf]
      rw [hdf] at HINF
      rw [hc]
      have HFR := Lib.hid (fun W : World => floatRational B hB hf W)
      clear hnan hc hdf hf
      go_enter Tryz.func80, Tryz.ntmps80
      go_wp2_with fail
      refine (sameType_if z p B _).mono ?_
      rintro e w2 ⟨rfl, hb2⟩
      have HB2 := Lib.hid hb2; clear hb2
      go_wp2_with fail
      refine (HINF.out _).mono ?_
      rintro e w3 ⟨rfl, rfl⟩
      go_wp2_with fail
      have hb3 : Below w.heap.size w (w2.alloc (.cells #[.int .i64 z, .pointer p] 97)) := HB2.out.trans ((below_alloc _ _).mono HB2.out.size)
      refine (intRational _ base neg V _ (HI.out.below hb3) HNEG.out HN.out).mono ?_
      rintro e w4 ⟨r1, rfl, hr1, hra1, hb4⟩
      have hb34 := hb3.trans (hb4.mono hb3.size)
      have HB4 := Lib.hid hb34; have HRA1 := Lib.hid hra1
      have HR1 := Lib.hid (show r1 < w4.heap.size from by obtain ⟨_, _, _, _, h, _⟩ := hra1; exact (Array.getElem?_eq_some_iff.1 h).1)
      clear hb3 hb4 hb34 hra1 hr1
      go_wp2_with fail
      refine (HFR.out _).mono ?_
      rintro e w5 ⟨r2, ng, N, D, rfl, hr2, hra2, hng, hcmp, hb5⟩
      have HB5 := Lib.hid hb5
      have HRC := Lib.hid (RatCmp_any r1 r2 neg ng V 1 N D w5 (HRA1.out.below hb5) hra2 HNEG.out hng (HK.out.below (HB4.out.trans (hb5.mono HB4.out.size))))
      have hval : icmp (sI neg V * (D : Int)) (sI ng N * ((1 : Nat) : Int)) = fcmp (sI neg V) B := by
        have := hcmp (sI neg V)
        simpa using this
      rw [hval] at HRC
      clear hb5 hra2 hng hcmp hval hr2
      go_wp2_with fail
      refine HRC.out.mono ?_
      rintro e w6 ⟨rfl, hb6⟩
      have HB6 := Lib.hid hb6; clear hb6
      go_wp2_with fail
      refine (HT.out _ _).mono ?_
      rintro e w7 ⟨rfl, rfl⟩
      go_wp2
      go_ret2
      have b5 := HB4.out.trans (HB5.out.mono HB4.out.size)
      exact ⟨rfl, b5.trans (HB6.out.mono b5.size)⟩
end Go.Proofs.YtgohhebffcldeaaGreatDoor

set_option linter.unusedVariables false
set_option linter.unusedSimpArgs false
namespace Go.Proofs.YtgohhebffcldeaaGreatDoor
open Go.RowKit
open Num

set_option maxRecDepth 100000 in
set_option maxHeartbeats 1000000 in
theorem CompareDepth_fi (op : Nat) (h1 : 13 ≤ op) (h2 : op ≤ 18) (v : Value) (base : Nat) (neg : Bool) (V B : Nat) (d : Nat) (hd : 1 ≤ d) (hd2 : d ≤ 1000000) (hB : B < 18446744073709551616) (w : World) (hI : IntIs w base v neg V) (hneg : neg = true → 0 < V) (hn : ∀ n, Nw n V → n ≤ 1048576) (hk : KT w) :
    Calls Tryz.prog 80 #[.int .i8 (tokOf op), .iface 99 (.float .f64 B), .iface 97 v, .int .i64 d] w fun e w' => e = .returned (.tuple #[.bool (opHolds op (-(fcAll (sI neg V) B))), .nilIface]) ∧ Below w.heap.size w w' := by
  obtain ⟨z, p, rfl⟩ := hI.shape
  have t1 := assert_int_int (.agg #[.int .i64 z, .pointer p])
  have t2 := assert_float_float (.float .f64 B)
  have t3 := assert_float_int (.float .f64 B)
  have hdd : decide ((d : Int) < 1) = false := by simp; omega
  obtain ⟨tk, htk⟩ : ∃ tk, tk = tokOf op := ⟨_, rfl⟩
  have HT := Lib.hid (fun c W => threeway_any op h1 h2 c W)
  rw [← htk] at HT ⊢
  have hnn := nan_ne B hB
  have HI := Lib.hid hI; have HN := Lib.hid hn; have HNEG := Lib.hid hneg; have HK := Lib.hid hk
  clear hI hn hneg hk htk h1 h2
  by_cases hnan : fexp B = 2047 ∧ ffrac B ≠ 0
  · have hc : fcAll (sI neg V) B = -1 := by unfold fcAll; rw [if_pos hnan.1, if_pos hnan.2]
    rw [hc]
    have hn2 : decide (fexp B = 2047 ∧ ffrac B ≠ 0) = true := by simpa using hnan
    rw [hn2] at hnn
    clear hnan hn2 hc
    go_enter Tryz.func80, Tryz.ntmps80
    go_wp2_with fail
    refine (sameType_fi z p B _).mono ?_
    rintro e w2 ⟨rfl, hb2⟩
    have HB2 := Lib.hid hb2; clear hb2
    go_wp2_with fail
    refine (HT.out _ _).mono ?_
    rintro e w3 ⟨rfl, rfl⟩
    go_wp2
    go_ret2
    exact ⟨rfl, HB2.out.trans ((below_alloc _ _).mono HB2.out.size)⟩
  · have hn2 : decide (fexp B = 2047 ∧ ffrac B ≠ 0) = false := by simpa using hnan
    rw [hn2] at hnn
    have HINF := Lib.hid (fun W : World => IsInf_any B hB hnan W)
    clear hn2
    by_cases hf : fexp B = 2047
    · have hfr : ffrac B = 0 := by
        rcases Nat.eq_zero_or_pos (ffrac B) with h | h
        · exact h
        · exact absurd ⟨hf, by omega⟩ hnan
      have hc : fcAll (sI neg V) B = if fneg B then 1 else -1 := by unfold fcAll; rw [if_pos hf, if_neg (by omega)]
      have hgt := inf_gt B hB hf hfr
      have hdf : decide (fexp B = 2047) = true := by simp [hf]
      rw [hdf] at HINF
      rw [hc]
      clear hnan hfr hc hdf hf
      obtain ⟨fb, hfb⟩ : ∃ fb, fb = fneg B := ⟨_, rfl⟩
      rw [← hfb] at hgt ⊢
      clear hfb
      obtain ⟨gb, hgb⟩ : ∃ gb, gb = !fb := ⟨_, rfl⟩
      rw [← hgb] at hgt
      cases fb <;> simp only [Bool.not_true, Bool.not_false] at hgb <;> subst hgb
      all_goals (
        go_enter Tryz.func80, Tryz.ntmps80
        go_wp2_with fail
        refine (sameType_fi z p B _).mono ?_
        rintro e w2 ⟨rfl, hb2⟩
        have HB2 := Lib.hid hb2; clear hb2
        go_wp2_with fail
        refine (HINF.out _).mono ?_
        rintro e w3 ⟨rfl, rfl⟩
        go_wp2_with fail
        refine (HT.out _ _).mono ?_
        rintro e w4 ⟨rfl, rfl⟩
        go_wp2
        go_ret2
        exact ⟨rfl, HB2.out.trans ((below_alloc _ _).mono HB2.out.size)⟩)
    · have hc : fcAll (sI neg V) B = fcmp (sI neg V) B := by unfold fcAll; rw [if_neg hf]
      have hdf : decide (fexp B = 2047) = false := by simp [hf]
      rw [hdf] at HINF
      rw [hc]
      have HFR := Lib.hid (fun W : World => floatRational B hB hf W)
      clear hnan hc hdf hf
      go_enter Tryz.func80, Tryz.ntmps80
      go_wp2_with fail
      refine (sameType_fi z p B _).mono ?_
      rintro e w2 ⟨rfl, hb2⟩
      have HB2 := Lib.hid hb2; clear hb2
      go_wp2_with fail
      refine (HINF.out _).mono ?_
      rintro e w3 ⟨rfl, rfl⟩
      go_wp2_with fail
      have hb3 : Below w.heap.size w (w2.alloc (.cells #[.int .i64 z, .pointer p] 97)) := HB2.out.trans ((below_alloc _ _).mono HB2.out.size)
      have hc := heap_alloc_new w2 (.cells #[.int .i64 z, .pointer p] 97)
      have hsz : w2.heap.size < (w2.alloc (.cells #[.int .i64 z, .pointer p] 97)).heap.size := by simp
      obtain ⟨W3, hW3⟩ : ∃ W3, W3 = w2.alloc (.cells #[.int .i64 z, .pointer p] 97) := ⟨_, rfl⟩
      rw [← hW3] at hb3 hc hsz ⊢
      have c0 : W3.drew.cell? ⟨w2.heap.size, 0, none⟩ = some (.int .i64 z) := (cell_of_row W3 _ 0 _ _ (0, 0) hc).trans rfl
      have c1 : W3.drew.cell? ⟨w2.heap.size, 1, none⟩ = some (.pointer p) := (cell_of_row W3 _ 1 _ _ (0, 0) hc).trans rfl
      have HB3 := Lib.hid hb3.drew; have HSZ := Lib.hid hsz
      clear hb3 hc hsz hW3
      go_region_law (first | (go_simp; go_at_call 124; refine (HFR.out _).mono ?_; rintro e w5 ⟨r2, ng, N, D, rfl, hr2, hra2, hng, hcmp, hb5⟩; have c0' : w5.cell? ⟨w2.heap.size, 0, none⟩ = some (.int .i64 z) := (hb5.cell (p := ⟨w2.heap.size, 0, none⟩) HSZ.out).trans c0; have c1' : w5.cell? ⟨w2.heap.size, 1, none⟩ = some (.pointer p) := (hb5.cell (p := ⟨w2.heap.size, 1, none⟩) HSZ.out).trans c1; have HB5 := Lib.hid hb5; have HRA2 := Lib.hid hra2; have HNG := Lib.hid hng; have HCMP := Lib.hid hcmp; clear hb5 hra2 hng hcmp hr2) | (go_simp; go_at_call 122; refine (intRational _ base neg V _ (HI.out.below (HB3.out.trans (HB5.out.mono (by have h := HB3.out.size; exact h)))) HNEG.out HN.out).mono ?_; rintro e w6 ⟨r1, rfl, hr1, hra1, hb6⟩; have HB6 := Lib.hid hb6; have HRA1 := Lib.hid hra1; clear hb6 hra1 hr1) | (go_simp; go_at_call 123; have hv : icmp (sI ng N * ((1 : Nat) : Int)) (sI neg V * (D : Int)) = -(fcmp (sI neg V) B) := by { rw [icmp_swap (sI neg V * (D : Int)), Int.natCast_one, Int.mul_one, HCMP.out] }; have HRC := RatCmp_any _ _ ng neg N D V 1 _ (HRA2.out.below HB6.out) HRA1.out HNG.out HNEG.out (HK.out.below (HB3.out.trans ((HB5.out.mono HB3.out.size).trans (HB6.out.mono (Nat.le_trans HB3.out.size HB5.out.size))))); rw [hv] at HRC; refine HRC.mono ?_; rintro e w7 ⟨rfl, hb7⟩; have HB7 := Lib.hid hb7; clear hb7))
      all_goals go_wp2_with fail
      all_goals (
        refine (HT.out _ _).mono ?_
        rintro e w8 ⟨rfl, rfl⟩
        go_wp2
        go_ret2
        have b5 := HB3.out.trans (HB5.out.mono (by have h := HB3.out.size; exact h))
        exact ⟨rfl, b5.trans ((HB6.out.mono b5.size).trans (HB7.out.mono (Nat.le_trans b5.size HB6.out.size)))⟩)
end Go.Proofs.YtgohhebffcldeaaGreatDoor

set_option linter.unusedVariables false
set_option linter.unusedSimpArgs false
namespace Go.Proofs.YtgohhebffcldeaaGreatDoor
open Go.RowKit
open Num

/-- the limit of a comparison's depth lies in its block -/
def CL (w : World) : Prop := w.cell? ⟨1, 0, none⟩ = some (.int .i64 10)
theorem CL.below {w w' : World} (h : CL w) (hb : Below w.heap.size w w') : CL w' := by
  have hl := World.block_lt_of_cell? w _ h
  exact (hb.cell (p := ⟨1, 0, none⟩) hl).trans h

theorem Compare_if (op : Nat) (h1 : 13 ≤ op) (h2 : op ≤ 18) (v : Value) (base : Nat) (neg : Bool) (V B : Nat) (hB : B < 18446744073709551616) (w : World) (hI : IntIs w base v neg V) (hneg : neg = true → 0 < V) (hn : ∀ n, Nw n V → n ≤ 1048576) (hk : KT w) (hc : CL w) :
    Calls Tryz.prog 41 #[.int .i8 (tokOf op), .iface 97 v, .iface 99 (.float .f64 B)] w fun e w' => e = .returned (.tuple #[.bool (opHolds op (fcAll (sI neg V) B)), .nilIface]) ∧ Below w.heap.size w w' := by
  have HD := Lib.hid (CompareDepth_if op h1 h2 v base neg V B 10 (by decide) (by decide) hB w hI hneg hn hk)
  obtain ⟨tk, htk⟩ : ∃ tk, tk = tokOf op := ⟨_, rfl⟩
  rw [← htk] at HD ⊢
  have c0 : w.cell? ⟨1, 0, none⟩ = some (.int .i64 10) := hc
  clear hI hn hneg hk hc htk
  go_enter Tryz.func41, Tryz.ntmps41
  go_wp2_with fail
  refine HD.out.mono ?_
  rintro e w2 ⟨rfl, hb2⟩
  go_wp2
  go_ret2
  exact ⟨rfl, hb2⟩
theorem Compare_fi (op : Nat) (h1 : 13 ≤ op) (h2 : op ≤ 18) (v : Value) (base : Nat) (neg : Bool) (V B : Nat) (hB : B < 18446744073709551616) (w : World) (hI : IntIs w base v neg V) (hneg : neg = true → 0 < V) (hn : ∀ n, Nw n V → n ≤ 1048576) (hk : KT w) (hc : CL w) :
    Calls Tryz.prog 41 #[.int .i8 (tokOf op), .iface 99 (.float .f64 B), .iface 97 v] w fun e w' => e = .returned (.tuple #[.bool (opHolds op (-(fcAll (sI neg V) B))), .nilIface]) ∧ Below w.heap.size w w' := by
  have HD := Lib.hid (CompareDepth_fi op h1 h2 v base neg V B 10 (by decide) (by decide) hB w hI hneg hn hk)
  obtain ⟨tk, htk⟩ : ∃ tk, tk = tokOf op := ⟨_, rfl⟩
  rw [← htk] at HD ⊢
  have c0 : w.cell? ⟨1, 0, none⟩ = some (.int .i64 10) := hc
  clear hI hn hneg hk hc htk
  go_enter Tryz.func41, Tryz.ntmps41
  go_wp2_with fail
  refine HD.out.mono ?_
  rintro e w2 ⟨rfl, hb2⟩
  go_wp2
  go_ret2
  exact ⟨rfl, hb2⟩

/-- a value that is a float -/
abbrev valFloat (B : Nat) : Value := .agg #[.int .i64 3, .bool false, .slice none 0 0, .int .u64 B, .string ⟨#[]⟩, .slice none 0 0]

set_option maxRecDepth 100000 in
theorem implCompare_if (op : Nat) (h1 : 13 ≤ op) (h2 : op ≤ 18) (neg : Bool) (s : Value) (n V B : Nat) (hB : B < 18446744073709551616) (w : World) (hm : MagAt w s n V) (hn : n ≤ 16777216) (hneg : neg = true → 0 < V) (hw : ∀ n, Nw n V → n ≤ 1048576) (hk : KT w) (hc : CL w) :
    Calls Tryz.prog 15 #[.int .i64 op, valInt neg s, valFloat B] w fun e w' => e = .returned (.tuple #[.bool (opHolds op (fcAll (sI neg V) B)), .bool true, .bool true]) ∧ Below w.heap.size w w' := by
  obtain ⟨sa, sc, rfl⟩ := hm.shape
  have HCM := Lib.hid (fun W : World => comparing_any op h1 h2 W)
  have HVI := Lib.hid (fun (W : World) (hb : Below w.heap.size w W) => value_int neg (.slice sa n sc) n V W (hm.below hb) hn hneg)
  have HVF := Lib.hid (fun W : World => value_float B hB W)
  have HCP := Lib.hid (fun (v : Value) (b : Nat) (W : World) (hI : IntIs W b v neg V) (hb : Below w.heap.size w W) => Compare_if op h1 h2 v b neg V B hB W hI hneg hw (hk.below hb) (hc.below hb))
  obtain ⟨tk, htk⟩ : ∃ tk, tk = tokOf op := ⟨_, rfl⟩
  rw [← htk] at HCM HCP
  obtain ⟨rs, hrs⟩ : ∃ rs, rs = opHolds op (fcAll (sI neg V) B) := ⟨_, rfl⟩
  rw [← hrs] at HCP ⊢
  clear hm hn hneg hw hk hc htk hrs h1 h2
  go_enter Tryz.func15, Tryz.ntmps15
  go_wp2_with fail
  obtain ⟨w1, hw1⟩ : ∃ w1, w1 = (w.alloc (.cells #[.int .i64 2, .bool neg, .slice sa n sc, .int .u64 0, .string ⟨#[]⟩, .slice none 0 0] 26)).alloc (.cells #[.int .i64 3, .bool false, .slice none 0 0, .int .u64 B, .string ⟨#[]⟩, .slice none 0 0] 26) := ⟨_, rfl⟩
  have hb1 : Below w.heap.size w w1 := by rw [hw1]; exact ((Below.refl _ _).alloc (Nat.le_refl _) _).alloc (by simp) _
  have r1 : w1.heap[w.heap.size]? = some (.cells #[.int .i64 2, .bool neg, .slice sa n sc, .int .u64 0, .string ⟨#[]⟩, .slice none 0 0] 26 (0, 0)) := by rw [hw1]; exact heap2_0 _ _ _
  have r2 : w1.heap[w.heap.size + 1]? = some (.cells #[.int .i64 3, .bool false, .slice none 0 0, .int .u64 B, .string ⟨#[]⟩, .slice none 0 0] 26 (0, 0)) := by rw [hw1]; exact heap2_1 _ _ _
  rw [← hw1]
  clear hw1
  refine (HCM.out _).mono ?_
  rintro e w2 ⟨rfl, hb2⟩
  have l1 := (Array.getElem?_eq_some_iff.1 r1).1
  have l2 := (Array.getElem?_eq_some_iff.1 r2).1
  have k1 := (hb2.block _ l1).trans r1
  have k2 := (hb2.block _ l2).trans r2
  have HB2 := Lib.hid (hb1.trans (hb2.mono hb1.size)); have HK1 := Lib.hid k1; have HK2 := Lib.hid k2
  clear hb1 r1 r2 hb2 l1 l2 k1 k2
  obtain ⟨x0, x1, x2, x3, x4, x5, x6⟩ := valRow HK1.out
  go_wp2_with fail
  refine (HVI.out _ HB2.out).mono ?_
  rintro e w3 ⟨v, rfl, hI, hb3⟩
  obtain ⟨z, p, rfl⟩ := hI.shape
  have HI0 := Lib.hid hI; clear hI
  have l2 := (Array.getElem?_eq_some_iff.1 HK2.out).1
  have k2 := (hb3.block _ l2).trans HK2.out
  have HB3 := Lib.hid (HB2.out.trans (hb3.mono HB2.out.size)); have HK2' := Lib.hid k2
  clear hb3 l2 k2 x0 x1 x2 x3 x4 x5 x6 HK1 HK2
  obtain ⟨x0, x1, x2, x3, x4, x5, x6⟩ := valRow HK2'.out
  go_wp2_with fail
  refine (HVF.out _).mono ?_
  rintro e w4 ⟨rfl, hb4⟩
  have HB4 := Lib.hid (HB3.out.trans (hb4.mono HB3.out.size))
  have HI := Lib.hid (HI0.out.below hb4)
  clear x0 x1 x2 x3 x4 x5 x6 HK2'
  go_wp2_with fail
  refine (HCP.out _ _ _ HI.out HB4.out).mono ?_
  rintro e w5 ⟨rfl, hb5⟩
  have HB5 := Lib.hid (HB4.out.trans (hb5.mono HB4.out.size))
  clear hb5
  go_wp2_with fail
  clear HCP
  cases rs
  all_goals go_quiet (fail)
  all_goals go_wp2
  all_goals go_ret3
  all_goals exact ⟨rfl, below_drewN HB5.out⟩
set_option maxRecDepth 100000 in
theorem implCompare_fi (op : Nat) (h1 : 13 ≤ op) (h2 : op ≤ 18) (neg : Bool) (s : Value) (n V B : Nat) (hB : B < 18446744073709551616) (w : World) (hm : MagAt w s n V) (hn : n ≤ 16777216) (hneg : neg = true → 0 < V) (hw : ∀ n, Nw n V → n ≤ 1048576) (hk : KT w) (hc : CL w) :
    Calls Tryz.prog 15 #[.int .i64 op, valFloat B, valInt neg s] w fun e w' => e = .returned (.tuple #[.bool (opHolds op (-(fcAll (sI neg V) B))), .bool true, .bool true]) ∧ Below w.heap.size w w' := by
  obtain ⟨sa, sc, rfl⟩ := hm.shape
  have HCM := Lib.hid (fun W : World => comparing_any op h1 h2 W)
  have HVI := Lib.hid (fun (W : World) (hb : Below w.heap.size w W) => value_int neg (.slice sa n sc) n V W (hm.below hb) hn hneg)
  have HVF := Lib.hid (fun W : World => value_float B hB W)
  have HCP := Lib.hid (fun (v : Value) (b : Nat) (W : World) (hI : IntIs W b v neg V) (hb : Below w.heap.size w W) => Compare_fi op h1 h2 v b neg V B hB W hI hneg hw (hk.below hb) (hc.below hb))
  obtain ⟨tk, htk⟩ : ∃ tk, tk = tokOf op := ⟨_, rfl⟩
  rw [← htk] at HCM HCP
  obtain ⟨rs, hrs⟩ : ∃ rs, rs = opHolds op (-(fcAll (sI neg V) B)) := ⟨_, rfl⟩
  rw [← hrs] at HCP ⊢
  clear hm hn hneg hw hk hc htk hrs h1 h2
  go_enter Tryz.func15, Tryz.ntmps15
  go_wp2_with fail
  obtain ⟨w1, hw1⟩ : ∃ w1, w1 = (w.alloc (.cells #[.int .i64 3, .bool false, .slice none 0 0, .int .u64 B, .string ⟨#[]⟩, .slice none 0 0] 26)).alloc (.cells #[.int .i64 2, .bool neg, .slice sa n sc, .int .u64 0, .string ⟨#[]⟩, .slice none 0 0] 26) := ⟨_, rfl⟩
  have hb1 : Below w.heap.size w w1 := by rw [hw1]; exact ((Below.refl _ _).alloc (Nat.le_refl _) _).alloc (by simp) _
  have r1 : w1.heap[w.heap.size]? = some (.cells #[.int .i64 3, .bool false, .slice none 0 0, .int .u64 B, .string ⟨#[]⟩, .slice none 0 0] 26 (0, 0)) := by rw [hw1]; exact heap2_0 _ _ _
  have r2 : w1.heap[w.heap.size + 1]? = some (.cells #[.int .i64 2, .bool neg, .slice sa n sc, .int .u64 0, .string ⟨#[]⟩, .slice none 0 0] 26 (0, 0)) := by rw [hw1]; exact heap2_1 _ _ _
  rw [← hw1]
  clear hw1
  refine (HCM.out _).mono ?_
  rintro e w2 ⟨rfl, hb2⟩
  have l1 := (Array.getElem?_eq_some_iff.1 r1).1
  have l2 := (Array.getElem?_eq_some_iff.1 r2).1
  have k1 := (hb2.block _ l1).trans r1
  have k2 := (hb2.block _ l2).trans r2
  have HB2 := Lib.hid (hb1.trans (hb2.mono hb1.size)); have HK1 := Lib.hid k1; have HK2 := Lib.hid k2
  clear hb1 r1 r2 hb2 l1 l2 k1 k2
  obtain ⟨x0, x1, x2, x3, x4, x5, x6⟩ := valRow HK1.out
  go_wp2_with fail
  refine (HVF.out _).mono ?_
  rintro e w3 ⟨rfl, hb3⟩
  have l2 := (Array.getElem?_eq_some_iff.1 HK2.out).1
  have k2 := (hb3.block _ l2).trans HK2.out
  have HB3 := Lib.hid (HB2.out.trans (hb3.mono HB2.out.size)); have HK2' := Lib.hid k2
  clear hb3 l2 k2 x0 x1 x2 x3 x4 x5 x6 HK1 HK2
  obtain ⟨x0, x1, x2, x3, x4, x5, x6⟩ := valRow HK2'.out
  go_wp2_with fail
  refine (HVI.out _ HB3.out).mono ?_
  rintro e w4 ⟨v, rfl, hI, hb4⟩
  obtain ⟨z, p, rfl⟩ := hI.shape
  have HB4 := Lib.hid (HB3.out.trans (hb4.mono HB3.out.size))
  have HI := Lib.hid hI; clear hI
  clear x0 x1 x2 x3 x4 x5 x6 HK2'
  go_wp2_with fail
  refine (HCP.out _ _ _ HI.out HB4.out).mono ?_
  rintro e w5 ⟨rfl, hb5⟩
  have HB5 := Lib.hid (HB4.out.trans (hb5.mono HB4.out.size))
  clear hb5
  go_wp2_with fail
  clear HCP
  cases rs
  all_goals go_quiet (fail)
  all_goals go_wp2
  all_goals go_ret3
  all_goals exact ⟨rfl, below_drewN HB5.out⟩
end Go.Proofs.YtgohhebffcldeaaGreatDoor
