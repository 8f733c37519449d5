import Derived.Test.YtjkmppdmejgjiaaGreatDoorEz17
import Derived.Test.YtjkmppdmejgjiaaGreatDoorEz14
import Derived.Test.YtjkmppdmejgjiaaGreatDoorEz5
import Derived.Test.YtjkmppdmejgjiaaGreatDoorEz4
/- Walks: comparing() and threeway(); sameType of an integer and a float. Walks: CompareDepth of an integer and a float, both ways round. Walks: CompareDepth of a float and an integer. Walks: starlark.Compare and impl.Compare of an integer and a float, both ways round. -/
set_option linter.unusedVariables false
set_option linter.unusedSimpArgs false
namespace Go.Proofs.YtjkmppdmejgjiaaGreatDoor
open Go.RowKit
open Num

theorem typeInt (v : Value) (h : ∃ z p, v = .agg #[.int .i64 z, .pointer p]) (w : World) : Calls Tryz.prog 272 #[v] w fun e w' => e = .returned (.string ⟨#[105, 110, 116]⟩) ∧ Below w.heap.size w w' := by
  obtain ⟨z, p, rfl⟩ := h
  go_enter Tryz.func272, Tryz.ntmps272
  go_wp2
  go_ret
  exact ⟨rfl, (Below.refl _ _).alloc (Nat.le_refl _) _⟩
theorem typeFloat (v : Value) (w : World) : Calls Tryz.prog 281 #[v] w fun e w' => e = .returned (.string ⟨#[102, 108, 111, 97, 116]⟩) ∧ Below w.heap.size w w' := by
  go_enter Tryz.func281, Tryz.ntmps281
  go_wp2
  go_ret
  exact ⟨rfl, Below.refl _ _⟩
theorem method_int (v : Value) (w : World) : (method 416 105 v "Type").run Tryz.prog w = .ok (272, v) w := by kernel_rfl
theorem method_float (v : Value) (w : World) : (method 416 107 v "Type").run Tryz.prog w = .ok (281, v) w := by kernel_rfl

set_option maxRecDepth 100000 in
theorem sameType_if (z : Int) (p : Option Addr) (B : Nat) (w : World) : Calls Tryz.prog 55 #[.iface 105 (.agg #[.int .i64 z, .pointer p]), .iface 107 (.float .f64 B)] w fun e w' => e = .returned (.bool false) ∧ Below w.heap.size w w' := by
  have m1 := method_int (.agg #[.int .i64 z, .pointer p])
  have m2 := method_float (.float .f64 B)
  go_enter Tryz.func55, Tryz.ntmps55
  go_wp2_with fail
  refine (typeInt _ ⟨z, p, rfl⟩ _).mono ?_
  rintro e w2 ⟨rfl, hb2⟩
  have HB2 := Lib.hid hb2; clear hb2
  go_wp2_with fail
  refine (typeFloat _ _).mono ?_
  rintro e w3 ⟨rfl, hb3⟩
  have HB3 := Lib.hid hb3; clear hb3
  go_wp2
  go_ret
  exact ⟨rfl, HB2.out.trans (HB3.out.mono HB2.out.size)⟩
set_option maxRecDepth 100000 in
theorem sameType_fi (z : Int) (p : Option Addr) (B : Nat) (w : World) : Calls Tryz.prog 55 #[.iface 107 (.float .f64 B), .iface 105 (.agg #[.int .i64 z, .pointer p])] w fun e w' => e = .returned (.bool false) ∧ Below w.heap.size w w' := by
  have m1 := method_int (.agg #[.int .i64 z, .pointer p])
  have m2 := method_float (.float .f64 B)
  go_enter Tryz.func55, Tryz.ntmps55
  go_wp2_with fail
  refine (typeFloat _ _).mono ?_
  rintro e w2 ⟨rfl, hb2⟩
  have HB2 := Lib.hid hb2; clear hb2
  go_wp2_with fail
  refine (typeInt _ ⟨z, p, rfl⟩ _).mono ?_
  rintro e w3 ⟨rfl, hb3⟩
  have HB3 := Lib.hid hb3; clear hb3
  go_wp2
  go_ret
  exact ⟨rfl, HB2.out.trans (HB3.out.mono HB2.out.size)⟩

theorem threeway_any (op : Nat) (h1 : 13 ≤ op) (h2 : op ≤ 18) (c : Int) (w : World) : Calls Tryz.prog 56 #[.int .i8 (tokOf op), .int .i64 c] w fun e w' => e = .returned (.bool (opHolds op c)) ∧ w' = w := by
  have h : op = 13 ∨ op = 14 ∨ op = 15 ∨ op = 16 ∨ op = 17 ∨ op = 18 := by omega
  rcases h with rfl | rfl | rfl | rfl | rfl | rfl
  all_goals (
    simp only [tokOf, opHolds, if_true, Nat.reduceEqDiff, if_false]
    go_enter Tryz.func56, Tryz.ntmps56
    go_wp2
    go_ret
    exact ⟨by first | rfl | simp, rfl⟩)
end Go.Proofs.YtjkmppdmejgjiaaGreatDoor

set_option linter.unusedVariables false
set_option linter.unusedSimpArgs false
namespace Go.Proofs.YtjkmppdmejgjiaaGreatDoor
open Go.RowKit
open Num

set_option maxRecDepth 100000 in
set_option maxHeartbeats 1000000 in
theorem CompareDepth_if (op : Nat) (h1 : 13 ≤ op) (h2 : op ≤ 18) (v : Value) (base : Nat) (neg : Bool) (V B : Nat) (d : Nat) (hd : 1 ≤ d) (hd2 : d ≤ 1000000) (hB : B < 18446744073709551616) (w : World) (hI : IntIs w base v neg V) (hneg : neg = true → 0 < V) (hn : ∀ n, Nw n V → n ≤ 1048576) (hk : KT w) :
    Calls Tryz.prog 39 #[.int .i8 (tokOf op), .iface 105 v, .iface 107 (.float .f64 B), .int .i64 d] w fun e w' => e = .returned (.tuple #[.bool (opHolds op (fcAll (sI neg V) B)), .nilIface]) ∧ Below w.heap.size w w' := by
  obtain ⟨z, p, rfl⟩ := hI.shape
  have t1 := assert_int_int (.agg #[.int .i64 z, .pointer p])
  have t2 := assert_float_float (.float .f64 B)
  have hdd : decide ((d : Int) < 1) = false := by simp; omega
  obtain ⟨tk, htk⟩ : ∃ tk, tk = tokOf op := ⟨_, rfl⟩
  have HT := Lib.hid (fun c W => threeway_any op h1 h2 c W)
  rw [← htk] at HT ⊢
  have hnn := nan_ne B hB
  have HI := Lib.hid hI; have HN := Lib.hid hn; have HNEG := Lib.hid hneg; have HK := Lib.hid hk
  clear hI hn hneg hk htk h1 h2
  by_cases hnan : fexp B = 2047 ∧ ffrac B ≠ 0
  · have hc : fcAll (sI neg V) B = -1 := by unfold fcAll; rw [if_pos hnan.1, if_pos hnan.2]
    rw [hc]
    have hn2 : decide (fexp B = 2047 ∧ ffrac B ≠ 0) = true := by simpa using hnan
    rw [hn2] at hnn
    clear hnan hn2 hc
    go_enter Tryz.func39, Tryz.ntmps39
    go_wp2_with fail
    refine (sameType_if z p B _).mono ?_
    rintro e w2 ⟨rfl, hb2⟩
    have HB2 := Lib.hid hb2; clear hb2
    go_wp2_with fail
    refine (HT.out _ _).mono ?_
    rintro e w3 ⟨rfl, rfl⟩
    go_wp2
    go_ret2
    exact ⟨rfl, HB2.out.trans ((below_alloc _ _).mono HB2.out.size)⟩
  · have hn2 : decide (fexp B = 2047 ∧ ffrac B ≠ 0) = false := by simpa using hnan
    rw [hn2] at hnn
    have HINF := Lib.hid (fun W : World => IsInf_any B hB hnan W)
    clear hn2
    by_cases hf : fexp B = 2047
    · have hfr : ffrac B = 0 := by
        rcases Nat.eq_zero_or_pos (ffrac B) with h | h
        · exact h
        · exact absurd ⟨hf, by omega⟩ hnan
      have hc : fcAll (sI neg V) B = if fneg B then 1 else -1 := by unfold fcAll; rw [if_pos hf, if_neg (by omega)]
      have hgt := inf_gt B hB hf hfr
      have hdf : decide (fexp B = 2047) = true := by simp [hf]
      rw [hdf] at HINF
      rw [hc]
      clear hnan hfr hc hdf hf
      obtain ⟨fb, hfb⟩ : ∃ fb, fb = fneg B := ⟨_, rfl⟩
      rw [← hfb] at hgt ⊢
      clear hfb
      obtain ⟨gb, hgb⟩ : ∃ gb, gb = !fb := ⟨_, rfl⟩
      rw [← hgb] at hgt
      cases fb <;> simp only [Bool.not_true, Bool.not_false] at hgb <;> subst hgb
      all_goals (
        go_enter Tryz.func39, Tryz.ntmps39
        go_wp2_with fail
        refine (sameType_if z p B _).mono ?_
        rintro e w2 ⟨rfl, hb2⟩
        have HB2 := Lib.hid hb2; clear hb2
        go_wp2_with fail
        refine (HINF.out _).mono ?_
        rintro e w3 ⟨rfl, rfl⟩
        go_wp2_with fail
        refine (HT.out _ _).mono ?_
        rintro e w4 ⟨rfl, rfl⟩
        go_wp2
        go_ret2
        exact ⟨rfl, HB2.out.trans ((below_alloc _ _).mono HB2.out.size)⟩)
    · have hc : fcAll (sI neg V) B = fcmp (sI neg V) B := by unfold fcAll; rw [if_neg hf]
      have hdf : decide (fexp B = 2047) = false := by simp [hf]
      rw [hdf] at HINF
      rw [hc]
      have HFR := Lib.hid (fun W : World => floatRational B hB hf W)
      clear hnan hc hdf hf
      go_enter Tryz.func39, Tryz.ntmps39
      go_wp2_with fail
      refine (sameType_if z p B _).mono ?_
      rintro e w2 ⟨rfl, hb2⟩
      have HB2 := Lib.hid hb2; clear hb2
      go_wp2_with fail
      refine (HINF.out _).mono ?_
      rintro e w3 ⟨rfl, rfl⟩
      go_wp2_with fail
      have hb3 : Below w.heap.size w (w2.alloc (.cells #[.int .i64 z, .pointer p] 105)) := HB2.out.trans ((below_alloc _ _).mono HB2.out.size)
      refine (intRational _ base neg V _ (HI.out.below hb3) HNEG.out HN.out).mono ?_
      rintro e w4 ⟨r1, rfl, hr1, hra1, hb4⟩
      have hb34 := hb3.trans (hb4.mono hb3.size)
      have HB4 := Lib.hid hb34; have HRA1 := Lib.hid hra1
      have HR1 := Lib.hid (show r1 < w4.heap.size from by obtain ⟨_, _, _, _, h, _⟩ := hra1; exact (Array.getElem?_eq_some_iff.1 h).1)
      clear hb3 hb4 hb34 hra1 hr1
      go_wp2_with fail
      refine (HFR.out _).mono ?_
      rintro e w5 ⟨r2, ng, N, D, rfl, hr2, hra2, hng, hcmp, hb5⟩
      have HB5 := Lib.hid hb5
      have HRC := Lib.hid (RatCmp_any r1 r2 neg ng V 1 N D w5 (HRA1.out.below hb5) hra2 HNEG.out hng (HK.out.below (HB4.out.trans (hb5.mono HB4.out.size))))
      have hval : icmp (sI neg V * (D : Int)) (sI ng N * ((1 : Nat) : Int)) = fcmp (sI neg V) B := by
        have := hcmp (sI neg V)
        simpa using this
      rw [hval] at HRC
      clear hb5 hra2 hng hcmp hval hr2
      go_wp2_with fail
      refine HRC.out.mono ?_
      rintro e w6 ⟨rfl, hb6⟩
      have HB6 := Lib.hid hb6; clear hb6
      go_wp2_with fail
      refine (HT.out _ _).mono ?_
      rintro e w7 ⟨rfl, rfl⟩
      go_wp2
      go_ret2
      have b5 := HB4.out.trans (HB5.out.mono HB4.out.size)
      exact ⟨rfl, b5.trans (HB6.out.mono b5.size)⟩
end Go.Proofs.YtjkmppdmejgjiaaGreatDoor

set_option linter.unusedVariables false
set_option linter.unusedSimpArgs false
namespace Go.Proofs.YtjkmppdmejgjiaaGreatDoor
open Go.RowKit
open Num

set_option maxRecDepth 100000 in
set_option maxHeartbeats 1000000 in
theorem CompareDepth_fi (op : Nat) (h1 : 13 ≤ op) (h2 : op ≤ 18) (v : Value) (base : Nat) (neg : Bool) (V B : Nat) (d : Nat) (hd : 1 ≤ d) (hd2 : d ≤ 1000000) (hB : B < 18446744073709551616) (w : World) (hI : IntIs w base v neg V) (hneg : neg = true → 0 < V) (hn : ∀ n, Nw n V → n ≤ 1048576) (hk : KT w) :
    Calls Tryz.prog 39 #[.int .i8 (tokOf op), .iface 107 (.float .f64 B), .iface 105 v, .int .i64 d] w fun e w' => e = .returned (.tuple #[.bool (opHolds op (-(fcAll (sI neg V) B))), .nilIface]) ∧ Below w.heap.size w w' := by
  obtain ⟨z, p, rfl⟩ := hI.shape
  have t1 := assert_int_int (.agg #[.int .i64 z, .pointer p])
  have t2 := assert_float_float (.float .f64 B)
  have t3 := assert_float_int (.float .f64 B)
  have hdd : decide ((d : Int) < 1) = false := by simp; omega
  obtain ⟨tk, htk⟩ : ∃ tk, tk = tokOf op := ⟨_, rfl⟩
  have HT := Lib.hid (fun c W => threeway_any op h1 h2 c W)
  rw [← htk] at HT ⊢
  have hnn := nan_ne B hB
  have HI := Lib.hid hI; have HN := Lib.hid hn; have HNEG := Lib.hid hneg; have HK := Lib.hid hk
  clear hI hn hneg hk htk h1 h2
  by_cases hnan : fexp B = 2047 ∧ ffrac B ≠ 0
  · have hc : fcAll (sI neg V) B = -1 := by unfold fcAll; rw [if_pos hnan.1, if_pos hnan.2]
    rw [hc]
    have hn2 : decide (fexp B = 2047 ∧ ffrac B ≠ 0) = true := by simpa using hnan
    rw [hn2] at hnn
    clear hnan hn2 hc
    go_enter Tryz.func39, Tryz.ntmps39
    go_wp2_with fail
    refine (sameType_fi z p B _).mono ?_
    rintro e w2 ⟨rfl, hb2⟩
    have HB2 := Lib.hid hb2; clear hb2
    go_wp2_with fail
    refine (HT.out _ _).mono ?_
    rintro e w3 ⟨rfl, rfl⟩
    go_wp2
    go_ret2
    exact ⟨rfl, HB2.out.trans ((below_alloc _ _).mono HB2.out.size)⟩
  · have hn2 : decide (fexp B = 2047 ∧ ffrac B ≠ 0) = false := by simpa using hnan
    rw [hn2] at hnn
    have HINF := Lib.hid (fun W : World => IsInf_any B hB hnan W)
    clear hn2
    by_cases hf : fexp B = 2047
    · have hfr : ffrac B = 0 := by
        rcases Nat.eq_zero_or_pos (ffrac B) with h | h
        · exact h
        · exact absurd ⟨hf, by omega⟩ hnan
      have hc : fcAll (sI neg V) B = if fneg B then 1 else -1 := by unfold fcAll; rw [if_pos hf, if_neg (by omega)]
      have hgt := inf_gt B hB hf hfr
      have hdf : decide (fexp B = 2047) = true := by simp [hf]
      rw [hdf] at HINF
      rw [hc]
      clear hnan hfr hc hdf hf
      obtain ⟨fb, hfb⟩ : ∃ fb, fb = fneg B := ⟨_, rfl⟩
      rw [← hfb] at hgt ⊢
      clear hfb
      obtain ⟨gb, hgb⟩ : ∃ gb, gb = !fb := ⟨_, rfl⟩
      rw [← hgb] at hgt
      cases fb <;> simp only [Bool.not_true, Bool.not_false] at hgb <;> subst hgb
      all_goals (
        go_enter Tryz.func39, Tryz.ntmps39
        go_wp2_with fail
        refine (sameType_fi z p B _).mono ?_
        rintro e w2 ⟨rfl, hb2⟩
        have HB2 := Lib.hid hb2; clear hb2
        go_wp2_with fail
        refine (HINF.out _).mono ?_
        rintro e w3 ⟨rfl, rfl⟩
        go_wp2_with fail
        refine (HT.out _ _).mono ?_
        rintro e w4 ⟨rfl, rfl⟩
        go_wp2
        go_ret2
        exact ⟨rfl, HB2.out.trans ((below_alloc _ _).mono HB2.out.size)⟩)
    · have hc : fcAll (sI neg V) B = fcmp (sI neg V) B := by unfold fcAll; rw [if_neg hf]
      have hdf : decide (fexp B = 2047) = false := by simp [hf]
      rw [hdf] at HINF
      rw [hc]
      have HFR := Lib.hid (fun W : World => floatRational B hB hf W)
      clear hnan hc hdf hf
      go_enter Tryz.func39, Tryz.ntmps39
      go_wp2_with fail
      refine (sameType_fi z p B _).mono ?_
      rintro e w2 ⟨rfl, hb2⟩
      have HB2 := Lib.hid hb2; clear hb2
      go_wp2_with fail
      refine (HINF.out _).mono ?_
      rintro e w3 ⟨rfl, rfl⟩
      go_wp2_with fail
      have hb3 : Below w.heap.size w (w2.alloc (.cells #[.int .i64 z, .pointer p] 105)) := HB2.out.trans ((below_alloc _ _).mono HB2.out.size)
      have hc := heap_alloc_new w2 (.cells #[.int .i64 z, .pointer p] 105)
      have hsz : w2.heap.size < (w2.alloc (.cells #[.int .i64 z, .pointer p] 105)).heap.size := by simp
      obtain ⟨W3, hW3⟩ : ∃ W3, W3 = w2.alloc (.cells #[.int .i64 z, .pointer p] 105) := ⟨_, rfl⟩
      rw [← hW3] at hb3 hc hsz ⊢
      have c0 : W3.drew.cell? ⟨w2.heap.size, 0, none⟩ = some (.int .i64 z) := (cell_of_row W3 _ 0 _ _ (0, 0) hc).trans rfl
      have c1 : W3.drew.cell? ⟨w2.heap.size, 1, none⟩ = some (.pointer p) := (cell_of_row W3 _ 1 _ _ (0, 0) hc).trans rfl
      have HB3 := Lib.hid hb3.drew; have HSZ := Lib.hid hsz
      clear hb3 hc hsz hW3
      go_region_law (first | (go_simp; go_at_call 60; refine (HFR.out _).mono ?_; rintro e w5 ⟨r2, ng, N, D, rfl, hr2, hra2, hng, hcmp, hb5⟩; have c0' : w5.cell? ⟨w2.heap.size, 0, none⟩ = some (.int .i64 z) := (hb5.cell (p := ⟨w2.heap.size, 0, none⟩) HSZ.out).trans c0; have c1' : w5.cell? ⟨w2.heap.size, 1, none⟩ = some (.pointer p) := (hb5.cell (p := ⟨w2.heap.size, 1, none⟩) HSZ.out).trans c1; have HB5 := Lib.hid hb5; have HRA2 := Lib.hid hra2; have HNG := Lib.hid hng; have HCMP := Lib.hid hcmp; clear hb5 hra2 hng hcmp hr2) | (go_simp; go_at_call 58; refine (intRational _ base neg V _ (HI.out.below (HB3.out.trans (HB5.out.mono (by have h := HB3.out.size; exact h)))) HNEG.out HN.out).mono ?_; rintro e w6 ⟨r1, rfl, hr1, hra1, hb6⟩; have HB6 := Lib.hid hb6; have HRA1 := Lib.hid hra1; clear hb6 hra1 hr1) | (go_simp; go_at_call 59; have hv : icmp (sI ng N * ((1 : Nat) : Int)) (sI neg V * (D : Int)) = -(fcmp (sI neg V) B) := by { rw [icmp_swap (sI neg V * (D : Int)), Int.natCast_one, Int.mul_one, HCMP.out] }; have HRC := RatCmp_any _ _ ng neg N D V 1 _ (HRA2.out.below HB6.out) HRA1.out HNG.out HNEG.out (HK.out.below (HB3.out.trans ((HB5.out.mono HB3.out.size).trans (HB6.out.mono (Nat.le_trans HB3.out.size HB5.out.size))))); rw [hv] at HRC; refine HRC.mono ?_; rintro e w7 ⟨rfl, hb7⟩; have HB7 := Lib.hid hb7; clear hb7))
      all_goals go_wp2_with fail
      all_goals (
        refine (HT.out _ _).mono ?_
        rintro e w8 ⟨rfl, rfl⟩
        go_wp2
        go_ret2
        have b5 := HB3.out.trans (HB5.out.mono (by have h := HB3.out.size; exact h))
        exact ⟨rfl, b5.trans ((HB6.out.mono b5.size).trans (HB7.out.mono (Nat.le_trans b5.size HB6.out.size)))⟩)
end Go.Proofs.YtjkmppdmejgjiaaGreatDoor

set_option linter.unusedVariables false
set_option linter.unusedSimpArgs false
namespace Go.Proofs.YtjkmppdmejgjiaaGreatDoor
open Go.RowKit
open Num

/-- the limit of a comparison's depth lies in its block -/
def CL (w : World) : Prop := w.cell? ⟨1, 0, none⟩ = some (.int .i64 10)
theorem CL.below {w w' : World} (h : CL w) (hb : Below w.heap.size w w') : CL w' := by
  have hl := World.block_lt_of_cell? w _ h
  exact (hb.cell (p := ⟨1, 0, none⟩) hl).trans h

end Go.Proofs.YtjkmppdmejgjiaaGreatDoor

/- Plain: values as trees; when two are equal; what a clean one is. -/
set_option linter.unusedVariables false
set_option linter.unusedSimpArgs false
namespace Go.Proofs.YtjkmppdmejgjiaaGreatDoor
open Go.RowKit
open Num

/-- a value's tree; a dict's kids are keys and values by turns -/
inductive Tr where
  | non
  | bool (b : Bool)
  | int (neg : Bool) (V : Nat)
  | flt (B : Nat)
  | str (s : ByteArray)
  | byt (s : ByteArray)
  | lst (l : List Tr)
  | tup (l : List Tr)
  | dic (l : List Tr)
  | set (l : List Tr)

/-- the kind's number in the program -/
def Tr.kind : Tr → Int
  | .non => 0 | .bool _ => 1 | .int _ _ => 2 | .flt _ => 3 | .str _ => 4 | .byt _ => 5 | .lst _ => 6 | .tup _ => 7 | .dic _ => 8 | .set _ => 9
def Tr.kids : Tr → List Tr
  | .lst l => l | .tup l => l | .dic l => l | .set l => l | _ => []
/-- two floats in the language's order: what is no number is equal to itself -/
def feq (A B : Nat) : Bool := (decide (fexp A = 2047 ∧ ffrac A ≠ 0) && decide (fexp B = 2047 ∧ ffrac B ≠ 0)) || (Ieee.double.order A B == some .eq)

/-- element by element -/
def allTwo (f : Tr → Tr → Bool) : List Tr → List Tr → Bool
  | [], [] => true
  | x :: l, y :: m => f x y && allTwo f l m
  | _, _ => false
/-- the keys of a dict's kids -/
def keysOf : List Tr → List Tr
  | k :: _ :: l => k :: keysOf l
  | _ => []
/-- each key of l is one of m's, with an equal value -/
def dictIn (f : Tr → Tr → Bool) (m : List Tr) : List Tr → Bool
  | k :: v :: l => lookIn f k v m && dictIn f m l
  | _ => true
where
  lookIn (f : Tr → Tr → Bool) (k v : Tr) : List Tr → Bool
  | k2 :: v2 :: m => if f k2 k then f v v2 else lookIn f k v m
  | _ => false

/-- spec.Equal, of so many levels -/
def eqv : Nat → Tr → Tr → Bool
  | 0, _, _ => false
  | d + 1, x, y =>
    match x, y with
    | .non, .non => true
    | .bool a, .bool b => a == b
    | .int n V, .int m U => sI n V == sI m U
    | .int n V, .flt B => fcAll (sI n V) B == 0
    | .flt B, .int n V => fcAll (sI n V) B == 0
    | .flt A, .flt B => feq A B
    | .str a, .str b => decide (a = b)
    | .byt a, .byt b => decide (a = b)
    | .lst l, .lst m => allTwo (eqv d) l m
    | .tup l, .tup m => allTwo (eqv d) l m
    | .dic l, .dic m => l.length == m.length && dictIn (eqv d) m l
    | .set l, .set m => l.length == m.length && l.all fun x => m.any fun y => eqv d y x
    | _, _ => false

/-- at most so many levels -/
def Lev : Nat → Tr → Prop
  | 0, _ => False
  | d + 1, x => ∀ k ∈ x.kids, Lev d k

/-- it can be a key: no list, dict, set in it -/
def KeyT : Nat → Tr → Prop
  | 0, _ => False
  | d + 1, x =>
    match x with
    | .lst _ | .dic _ | .set _ => False
    | .tup l => ∀ k ∈ l, KeyT d k
    | _ => True

/-- no two of them are equal -/
def Apart (d : Nat) : List Tr → Prop
  | [] => True
  | x :: l => (∀ y ∈ l, eqv d x y = false) ∧ Apart d l

theorem dorder_eq_comm (a b : Ieee.Datum) : (a.order b == some .eq) = (b.order a == some .eq) := by
  cases a with
  | number s m i =>
    cases b with
    | number t n j =>
      rw [signed_cmp, signed_cmp, Int.min_comm j i]
      generalize Ieee.signed s m _ = x
      generalize Ieee.signed t n _ = y
      rcases Int.lt_trichotomy x y with h | h | h
      · rw [Int.compare_eq_lt.2 h, Int.compare_eq_gt.2 h]; rfl
      · rw [h]
      · rw [Int.compare_eq_gt.2 h, Int.compare_eq_lt.2 h]; rfl
    | infinity t => cases t <;> rfl
    | nan t f => rfl
  | infinity s =>
    cases b with
    | number t n j => cases s <;> rfl
    | infinity t => cases s <;> cases t <;> rfl
    | nan t f => rfl
  | nan s f => cases b <;> rfl
theorem feq_comm (A B : Nat) : feq A B = feq B A := by
  unfold feq Ieee.Format.order
  rw [dorder_eq_comm, Bool.and_comm]
theorem allTwo_comm {f : Tr → Tr → Bool} : ∀ (l m : List Tr), (∀ x ∈ l, ∀ y ∈ m, f x y = f y x) → allTwo f l m = allTwo f m l
  | [], [], _ => rfl
  | [], _ :: _, _ => rfl
  | _ :: _, [], _ => rfl
  | x :: l, y :: m, h => by
    show (f x y && allTwo f l m) = (f y x && allTwo f m l)
    rw [h x (by simp) y (by simp), allTwo_comm l m (fun a ha b hb => h a (by simp [ha]) b (by simp [hb]))]
theorem eqv_comm : ∀ (d : Nat) (x y : Tr), KeyT d x → KeyT d y → eqv d x y = eqv d y x
  | 0, _, _, h, _ => h.elim
  | d + 1, x, y, hx, hy => by
    cases x <;> cases y <;> first | rfl | (exact hx.elim) | (exact hy.elim) | skip
    all_goals simp only [eqv]
    · exact Bool.beq_comm
    · exact Bool.beq_comm
    · exact feq_comm _ _
    · exact decide_eq_decide.2 eq_comm
    · exact decide_eq_decide.2 eq_comm
    · exact allTwo_comm _ _ (fun a ha b hb => eqv_comm d a b (hx a ha) (hy b hb))
end Go.Proofs.YtjkmppdmejgjiaaGreatDoor

/- Plain: the least place's weight. -/
set_option linter.unusedVariables false
namespace Go.Proofs.YtjkmppdmejgjiaaGreatDoor.Num
/-- the least place's weight, upside down; never to be reckoned -/
def pw (n : Nat) : Nat := 2 ^ n
theorem pw_pos (n : Nat) : 0 < pw n := Nat.two_pow_pos n
theorem pw_add (a b n : Nat) (h : b = a + n) : 2 ^ b = 2 ^ a * pw n := by rw [h, Nat.pow_add]; rfl
theorem pw_split (a b n : Nat) (h : a + b = n) : 2 ^ a * 2 ^ b = pw n := by rw [← Nat.pow_add, h]; rfl
def hiP : Nat := pw 1074
theorem hiP_pos : 0 < hiP := pw_pos 1074
theorem hiP_add (a b : Nat) (h : b = a + 1074) : 2 ^ b = 2 ^ a * hiP := pw_add a b 1074 h
theorem hiP_split (a b : Nat) (h : a + b = 1074) : 2 ^ a * 2 ^ b = hiP := pw_split a b 1074 h
end Go.Proofs.YtjkmppdmejgjiaaGreatDoor.Num

/- Plain: a key's worth: two keys are equal just if they are worth the same. -/
set_option linter.unusedVariables false
set_option linter.unusedSimpArgs false
namespace Go.Proofs.YtjkmppdmejgjiaaGreatDoor
open Go.RowKit
open Num

/-- what a key is worth -/
inductive Cn where
  | non
  | bool (b : Bool)
  | num (v : Int)
  | inf (neg : Bool)
  | nan
  | str (s : ByteArray)
  | byt (s : ByteArray)
  | tup (l : List Cn)
  | no

/-- a finite float's worth in units of 2^-1074 -/
def fval (B : Nat) : Int := sI (fneg B) (fman B * 2 ^ (fplace B + 1074).toNat)
def canonF (B : Nat) : Cn := if fexp B = 2047 then (if ffrac B ≠ 0 then .nan else .inf (fneg B)) else .num (fval B)
def canon : Nat → Tr → Cn
  | 0, _ => .no
  | d + 1, x =>
    match x with
    | .non => .non
    | .bool b => .bool b
    | .int n V => .num (sI n V * (hiP : Int))
    | .flt B => canonF B
    | .str s => .str s
    | .byt s => .byt s
    | .tup l => .tup (l.map (canon d))
    | _ => .no

theorem sI_mul (n : Bool) (V k : Nat) : sI n V * (k : Int) = sI n (V * k) := by
  unfold sI
  cases n
  · simp
  · simp [Int.neg_mul]
theorem sI_cancel (n m : Bool) (V U k : Nat) (hk : 0 < k) : sI n (V * k) = sI m (U * k) ↔ sI n V = sI m U := by
  rw [← sI_mul, ← sI_mul]
  constructor
  · intro h
    exact Int.eq_of_mul_eq_mul_right (by omega) h
  · intro h; rw [h]
theorem icmp_zero (a b : Int) : icmp a b = 0 ↔ a = b := by
  unfold icmp
  split
  · constructor <;> intro h <;> omega
  · split
    · constructor <;> intro h <;> omega
    · constructor <;> intro h <;> omega

theorem fcmp_val (n : Bool) (V B : Nat) : fcmp (sI n V) B = 0 ↔ sI n V * (hiP : Int) = fval B := by
  unfold fcmp fval
  rw [icmp_zero, sI_mul, sI_mul]
  have hp := fplace_ge B
  by_cases h : 0 ≤ fplace B
  · rw [show (-fplace B).toNat = 0 by omega, Nat.pow_zero, Nat.mul_one]
    rw [hiP_add (fplace B).toNat (fplace B + 1074).toNat (by omega), ← Nat.mul_assoc]
    exact (sI_cancel _ _ _ _ _ hiP_pos).symm
  · rw [show (fplace B).toNat = 0 by omega, Nat.pow_zero, Nat.mul_one]
    have e := hiP_split (-fplace B).toNat (fplace B + 1074).toNat (by omega)
    rw [← e, ← Nat.mul_assoc]
    exact (sI_cancel _ _ _ _ _ (Nat.two_pow_pos _)).symm

theorem signed_sI (s : Bool) (m u : Nat) : Ieee.signed s m u = sI s (m * 2 ^ u) := by
  cases s
  · rw [signed_false]; rfl
  · rw [signed_true]; rfl
theorem order_val (A B : Nat) (hA : A < 18446744073709551616) (hB : B < 18446744073709551616) (ha : fexp A ≠ 2047) (hb : fexp B ≠ 2047) : (Ieee.double.order A B == some .eq) = true ↔ fval A = fval B := by
  unfold Ieee.Format.order
  rw [read_double A hA ha, read_double B hB hb, signed_cmp, signed_sI, signed_sI]
  have h1 := fplace_ge A
  have h2 := fplace_ge B
  obtain ⟨k, hk⟩ : ∃ k : Nat, (k : Int) = min (fplace A) (fplace B) + 1074 := ⟨(min (fplace A) (fplace B) + 1074).toNat, by omega⟩
  have e1 : (fplace A + 1074).toNat = (fplace A - min (fplace A) (fplace B)).toNat + k := by omega
  have e2 : (fplace B + 1074).toNat = (fplace B - min (fplace A) (fplace B)).toNat + k := by omega
  unfold fval
  rw [e1, e2, Nat.pow_add, Nat.pow_add, ← Nat.mul_assoc, ← Nat.mul_assoc, sI_cancel _ _ _ _ _ (Nat.two_pow_pos k)]
  generalize sI _ _ = x
  generalize sI _ _ = y
  rcases Int.lt_trichotomy x y with h | h | h
  · rw [Int.compare_eq_lt.2 h]; constructor
    · intro q; cases q
    · intro q; omega
  · subst h
    rw [Int.compare_eq_eq.2 rfl]; simp
  · rw [Int.compare_eq_gt.2 h]; constructor
    · intro q; cases q
    · intro q; omega

theorem feq_val (A B : Nat) (hA : A < 18446744073709551616) (hB : B < 18446744073709551616) : feq A B = true ↔ canonF A = canonF B := by
  unfold feq canonF
  by_cases ha : fexp A = 2047
  · by_cases hb : fexp B = 2047
    · rw [if_pos ha, if_pos hb]
      by_cases ha0 : ffrac A = 0
      · by_cases hb0 : ffrac B = 0
        · rw [if_neg (by simp [ha0]), if_neg (by simp [hb0])]
          unfold Ieee.Format.order
          rw [read_inf A hA ha ha0, read_inf B hB hb hb0]
          cases fneg A <;> cases fneg B <;> simp [Ieee.Datum.order, ha0, hb0] <;> decide
        · rw [if_neg (by simp [ha0]), if_pos hb0]
          unfold Ieee.Format.order
          rw [read_inf A hA ha ha0, read_nan B hB hb hb0]
          simp [Ieee.Datum.order, ha0]
      · by_cases hb0 : ffrac B = 0
        · rw [if_pos ha0, if_neg (by simp [hb0])]
          unfold Ieee.Format.order
          rw [read_nan A hA ha ha0, read_inf B hB hb hb0]
          simp [Ieee.Datum.order, hb0]
        · rw [if_pos ha0, if_pos hb0]
          simp [ha, hb, ha0, hb0]
    · rw [if_pos ha, if_neg hb]
      unfold Ieee.Format.order
      rw [read_double B hB hb]
      by_cases ha0 : ffrac A = 0
      · rw [if_neg (by simp [ha0]), read_inf A hA ha ha0]
        cases fneg A <;> simp [Ieee.Datum.order, hb] <;> decide
      · rw [if_pos ha0, read_nan A hA ha ha0]
        simp [Ieee.Datum.order, hb]
  · by_cases hb : fexp B = 2047
    · rw [if_neg ha, if_pos hb]
      unfold Ieee.Format.order
      rw [read_double A hA ha]
      by_cases hb0 : ffrac B = 0
      · rw [if_neg (by simp [hb0]), read_inf B hB hb hb0]
        cases fneg B <;> simp [Ieee.Datum.order, ha] <;> decide
      · rw [if_pos hb0, read_nan B hB hb hb0]
        simp [Ieee.Datum.order, ha]
    · rw [if_neg ha, if_neg hb]
      have := order_val A B hA hB ha hb
      simp only [ha, hb, false_and, decide_false, Bool.false_and, Bool.false_or]
      rw [this]
      constructor
      · intro h; rw [h]
      · intro h; injection h

/-- floats are doubles' bits -/
def FltT : Nat → Tr → Prop
  | 0, _ => True
  | d + 1, x =>
    match x with
    | .flt B => B < 18446744073709551616
    | .tup l => ∀ k ∈ l, FltT d k
    | _ => True

theorem fcAll_val (n : Bool) (V B : Nat) : (fcAll (sI n V) B == 0) = true ↔ Cn.num (sI n V * (hiP : Int)) = canonF B := by
  unfold fcAll canonF
  by_cases hb : fexp B = 2047
  · rw [if_pos hb, if_pos hb]
    by_cases hb0 : ffrac B = 0
    · have hn : ¬ (ffrac B ≠ 0) := fun h => h hb0
      simp only [hb0, ne_eq, not_true_eq_false, if_false]
      cases fneg B <;> simp
    · simp [hb0]
  · rw [if_neg hb, if_neg hb]
    rw [beq_iff_eq, fcmp_val]
    constructor
    · intro h; rw [h]
    · intro h; injection h

theorem allTwo_map {f : Tr → Tr → Bool} {g : Tr → Cn} : ∀ (l m : List Tr), (∀ x ∈ l, ∀ y ∈ m, (f x y = true ↔ g x = g y)) → (allTwo f l m = true ↔ l.map g = m.map g)
  | [], [], _ => by simp [allTwo]
  | [], _ :: _, _ => by simp [allTwo]
  | _ :: _, [], _ => by simp [allTwo]
  | x :: l, y :: m, h => by
    have h1 := h x (by simp) y (by simp)
    have h2 := allTwo_map (f := f) (g := g) l m (fun a ha b hb => h a (by simp [ha]) b (by simp [hb]))
    simp only [allTwo, Bool.and_eq_true, List.map_cons, List.cons.injEq]
    rw [h1, h2]

theorem eqv_canon : ∀ (d : Nat) (x y : Tr), KeyT d x → KeyT d y → FltT d x → FltT d y → (eqv d x y = true ↔ canon d x = canon d y)
  | 0, _, _, h, _, _, _ => h.elim
  | d + 1, x, y, hx, hy, fx, fy => by
    cases x <;> cases y <;> first | (exact hx.elim) | (exact hy.elim) | skip
    all_goals simp only [eqv, canon]
    case int.int n V m U =>
      rw [beq_iff_eq]
      constructor
      · intro h; rw [h]
      · intro h
        injection h with h
        exact Int.eq_of_mul_eq_mul_right (by have := hiP_pos; omega) h
    case int.flt n V B => exact fcAll_val n V B
    case flt.int B n V => rw [fcAll_val]; exact eq_comm
    case flt.flt A B => exact feq_val A B fx fy
    case tup.tup l m =>
      rw [allTwo_map (g := canon d) l m (fun a ha b hb => eqv_canon d a b (hx a ha) (hy b hb) (fx a ha) (fy b hb))]
      constructor
      · intro h; rw [h]
      · intro h; injection h
    all_goals try (simp; done)
    all_goals (unfold canonF; split <;> (try split) <;> simp)
end Go.Proofs.YtjkmppdmejgjiaaGreatDoor

/- Plain: a key's hash; two keys of one worth have one hash. -/
set_option linter.unusedVariables false
set_option linter.unusedSimpArgs false
namespace Go.Proofs.YtjkmppdmejgjiaaGreatDoor
open Go.RowKit
open Num

/-- the low word of an int of the package: of a small one as it lies, of a big one of its magnitude -/
def lowW (z : Int) : Nat := if -2147483648 ≤ z ∧ z ≤ 2147483647 then (z % 18446744073709551616).toNat else z.natAbs % 18446744073709551616
def hashZ (z : Int) : Nat := 12582917 * ((lowW z + 3) % 18446744073709551616 % 4294967296) % 4294967296
/-- a text's hash, of its first so many bytes -/
def fnvN (s : ByteArray) : Nat → Nat
  | 0 => 2166136261
  | k + 1 => (fnvN s k ^^^ (s.data.getD k 0).toNat) * 16777619 % 4294967296
def fnv (s : ByteArray) : Nat := fnvN s s.size
/-- a tuple's factor, before element k -/
def tupM (g : Nat) : Nat → Nat
  | 0 => 1000003
  | k + 1 => (tupM g k + g) % 4294967296
/-- a tuple's hash, of its first k elements -/
def tupN (g : Nat) (H : Nat → Nat) : Nat → Nat
  | 0 => 3430008
  | k + 1 => tupN g H k ^^^ (H k * tupM g k % 4294967296)
def hashT : Nat → Tr → Nat
  | 0, _ => 0
  | d + 1, x =>
    match x with
    | .non => 0
    | .bool b => b.toNat
    | .int n V => hashZ (sI n V)
    | .flt B => if fexp B = 2047 then 1618033 else hashZ (sI (fneg B) (fwhole B))
    | .str s => fnv s
    | .byt s => fnv s
    | .tup l => tupN ((82520 + 2 * l.length) % 4294967296) (fun i => (l.map (hashT d)).getD i 0) l.length
    | _ => 0
/-- zero is no hash -/
def nzH (h : Nat) : Nat := if h = 0 then 1 else h

theorem hashZ_lt (z : Int) : hashZ z < 4294967296 := Nat.mod_lt _ (by decide)
theorem fnvN_lt (s : ByteArray) : ∀ k, fnvN s k < 4294967296
  | 0 => by show 2166136261 < _; decide
  | k + 1 => Nat.mod_lt _ (by decide)
theorem fnv_lt (s : ByteArray) : fnv s < 4294967296 := fnvN_lt s _
theorem tupM_lt (g : Nat) : ∀ k, tupM g k < 4294967296
  | 0 => by show 1000003 < _; decide
  | k + 1 => Nat.mod_lt _ (by decide)
theorem tupN_lt (g : Nat) (H : Nat → Nat) : ∀ k, tupN g H k < 4294967296
  | 0 => by show 3430008 < _; decide
  | k + 1 => Nat.xor_lt_two_pow (n := 32) (tupN_lt g H k) (Nat.mod_lt _ (by decide))
theorem hashT_lt : ∀ (d : Nat) (x : Tr), hashT d x < 4294967296
  | 0, _ => by show 0 < _; decide
  | d + 1, x => by
    cases x <;> simp only [hashT]
    case bool b => cases b <;> decide
    case int n V => exact hashZ_lt _
    case flt B => split
                  · decide
                  · exact hashZ_lt _
    case str s => exact fnv_lt s
    case byt s => exact fnv_lt s
    case tup l => exact tupN_lt _ _ _
    all_goals decide
theorem nzH_pos (h : Nat) : 0 < nzH h := by unfold nzH; split <;> omega
theorem nzH_lt {h : Nat} (hl : h < 4294967296) : nzH h < 4294967296 := by unfold nzH; split <;> omega

theorem fval_whole (B : Nat) : (fman B * 2 ^ (fplace B + 1074).toNat) / hiP = fwhole B := by
  have hp := fplace_ge B
  unfold fwhole
  by_cases h : 0 ≤ fplace B
  · rw [if_pos h, hiP_add (fplace B).toNat (fplace B + 1074).toNat (by omega), ← Nat.mul_assoc, Nat.mul_div_cancel _ hiP_pos]
  · rw [if_neg h, ← hiP_split (-fplace B).toNat (fplace B + 1074).toNat (by omega), Nat.mul_div_mul_right _ _ (Nat.two_pow_pos _)]
theorem sI_tdiv (n : Bool) (V k : Nat) : (sI n V).tdiv (k : Int) = sI n (V / k) := by
  unfold sI
  cases n
  · simp
  · simp [Int.neg_tdiv]
theorem fval_tdiv (B : Nat) : (fval B).tdiv (hiP : Int) = sI (fneg B) (fwhole B) := by
  unfold fval
  rw [sI_tdiv, fval_whole]
theorem num_tdiv (z : Int) : (z * (hiP : Int)).tdiv (hiP : Int) = z := Int.mul_tdiv_cancel _ (by have := hiP_pos; omega)

theorem map_hash {f : Tr → Nat} {g : Tr → Cn} : ∀ (l m : List Tr), (∀ x ∈ l, ∀ y ∈ m, g x = g y → f x = f y) → l.map g = m.map g → l.map f = m.map f
  | [], [], _, _ => rfl
  | [], _ :: _, _, h => by cases h
  | _ :: _, [], _, h => by cases h
  | x :: l, y :: m, h, e => by
    injection e with e1 e2
    rw [List.map_cons, List.map_cons, h x (by simp) y (by simp) e1, map_hash l m (fun a ha b hb => h a (by simp [ha]) b (by simp [hb])) e2]

theorem hash_canonF (n : Bool) (V B : Nat) (h : Cn.num (sI n V * (hiP : Int)) = canonF B) : hashZ (sI n V) = (if fexp B = 2047 then 1618033 else hashZ (sI (fneg B) (fwhole B))) := by
  unfold canonF at h
  split at h
  · split at h <;> cases h
  · rename_i hb
    injection h with h
    rw [if_neg hb, ← fval_tdiv, ← h, num_tdiv]

/-- two keys of one worth have one hash -/
theorem hash_canon : ∀ (d : Nat) (x y : Tr), KeyT d x → KeyT d y → canon d x = canon d y → hashT d x = hashT d y
  | 0, _, _, h, _, _ => h.elim
  | d + 1, x, y, hx, hy, h => by
    cases x <;> cases y <;> first | (exact hx.elim) | (exact hy.elim) | skip
    all_goals simp only [canon] at h
    all_goals first | (cases h; done) | skip
    all_goals simp only [hashT]
    case bool.bool a b => injection h with h; rw [h]
    case int.int n V m U =>
      injection h with h
      rw [← num_tdiv (sI n V), h, num_tdiv]
    case int.flt n V B => exact hash_canonF n V B h
    case flt.int B n V => exact (hash_canonF n V B h.symm).symm
    case flt.flt A B =>
      unfold canonF at h
      split at h
      · rename_i ha
        split at h
        · split at h
          · rename_i hb; rw [if_pos ha, if_pos hb]
          · cases h
        · split at h
          · rename_i hb; rw [if_pos ha, if_pos hb]
          · cases h
      · rename_i ha
        split at h
        · split at h <;> cases h
        · rename_i hb
          injection h with h
          rw [if_neg ha, if_neg hb, ← fval_tdiv, h, fval_tdiv]
    case str.str a b => injection h with h; rw [h]
    case byt.byt a b => injection h with h; rw [h]
    case tup.tup l m =>
      injection h with h
      have hl : l.length = m.length := by simpa using congrArg List.length h
      rw [map_hash (f := hashT d) l m (fun a ha b hb e => hash_canon d a b (hx a ha) (hy b hb) e) h, hl]
    all_goals (exfalso; revert h; unfold canonF; split <;> (try split) <;> intro h <;> cases h)

/-- equal keys have one hash -/
theorem hash_eqv (d : Nat) (x y : Tr) (hx : KeyT d x) (hy : KeyT d y) (fx : FltT d x) (fy : FltT d y) (h : eqv d x y = true) : hashT d x = hashT d y :=
  hash_canon d x y hx hy ((eqv_canon d x y hx hy fx fy).1 h)
/-- what is equal to one of two equal keys is equal to the other -/
theorem eqv_trans (d : Nat) (x y z : Tr) (hx : KeyT d x) (hy : KeyT d y) (hz : KeyT d z) (fx : FltT d x) (fy : FltT d y) (fz : FltT d z) (h : eqv d x y = true) : eqv d x z = eqv d y z := by
  have e := (eqv_canon d x y hx hy fx fy).1 h
  rw [Bool.eq_iff_iff, eqv_canon d x z hx hz fx fz, eqv_canon d y z hy hz fy fz, e]
theorem eqv_refl (d : Nat) (x : Tr) (hx : KeyT d x) (fx : FltT d x) : eqv d x x = true := (eqv_canon d x x hx hx fx fx).2 rfl
end Go.Proofs.YtjkmppdmejgjiaaGreatDoor

/- What lies in memory: a value of the specification, a value of the package, of a tree. -/
set_option linter.unusedVariables false
set_option linter.unusedSimpArgs false
namespace Go.Proofs.YtjkmppdmejgjiaaGreatDoor
open Go.RowKit
open Num

/-- the six cells at a place of a block -/
def V6 (w : World) (g p : Nat) (v : Value) : Prop := ∃ c0 c1 c2 c3 c4 c5, v = .agg #[c0, c1, c2, c3, c4, c5] ∧ w.cell? ⟨g, p, none⟩ = some c0 ∧ w.cell? ⟨g, p + 1, none⟩ = some c1 ∧ w.cell? ⟨g, p + 2, none⟩ = some c2 ∧ w.cell? ⟨g, p + 3, none⟩ = some c3 ∧ w.cell? ⟨g, p + 4, none⟩ = some c4 ∧ w.cell? ⟨g, p + 5, none⟩ = some c5
/-- a slice of values of the specification -/
def KidsAt (w : World) (P : Value → Tr → Prop) (ks : Value) (l : List Tr) : Prop :=
  (l = [] ∧ ∃ a c, ks = .slice a 0 c) ∨
  (0 < l.length ∧ ∃ g p c, ks = .slice (some ⟨g, p, none⟩) l.length c ∧ l.length ≤ c ∧ c ≤ 9223372036854775807 ∧ g < w.heap.size ∧ ∀ i (h : i < l.length), ∃ u, V6 w g (p + i * 6) u ∧ P u l[i])
abbrev valSix (k : Int) (bits : Int) (text : ByteArray) (ks : Value) : Value := .agg #[.int .i64 k, .bool false, .slice none 0 0, .int .u64 bits, .string text, ks]
/-- a value of the specification, of so many levels -/
def ValAt (w : World) : Nat → Value → Tr → Prop
  | 0, _, _ => False
  | d + 1, v, T =>
    match T with
    | .non => v = valSix 0 0 ⟨#[]⟩ (.slice none 0 0)
    | .bool b => v = valSix 1 (if b then 1 else 0) ⟨#[]⟩ (.slice none 0 0)
    | .int n V => ∃ s m, v = .agg #[.int .i64 2, .bool n, s, .int .u64 0, .string ⟨#[]⟩, .slice none 0 0] ∧ MagAt w s m V ∧ m ≤ 40 ∧ (n = true → 0 < V)
    | .flt B => v = valSix 3 B ⟨#[]⟩ (.slice none 0 0) ∧ B < 18446744073709551616
    | .str s => v = valSix 4 0 s (.slice none 0 0) ∧ s.size ≤ 60
    | .byt s => v = valSix 5 0 s (.slice none 0 0) ∧ s.size ≤ 60
    | .lst l => ∃ ks, v = valSix 6 0 ⟨#[]⟩ ks ∧ KidsAt w (ValAt w d) ks l
    | .tup l => ∃ ks, v = valSix 7 0 ⟨#[]⟩ ks ∧ KidsAt w (ValAt w d) ks l
    | .dic l => ∃ ks, v = valSix 8 0 ⟨#[]⟩ ks ∧ KidsAt w (ValAt w d) ks l
    | .set l => ∃ ks, v = valSix 9 0 ⟨#[]⟩ ks ∧ KidsAt w (ValAt w d) ks l

theorem V6.below {w w' : World} {g p : Nat} {v : Value} (h : V6 w g p v) (hg : g < w.heap.size) (hb : Below w.heap.size w w') : V6 w' g p v := by
  obtain ⟨c0, c1, c2, c3, c4, c5, e, h0, h1, h2, h3, h4, h5⟩ := h
  exact ⟨c0, c1, c2, c3, c4, c5, e, (hb.cell (p := ⟨g, p, none⟩) hg).trans h0, (hb.cell (p := ⟨g, p + 1, none⟩) hg).trans h1, (hb.cell (p := ⟨g, p + 2, none⟩) hg).trans h2, (hb.cell (p := ⟨g, p + 3, none⟩) hg).trans h3, (hb.cell (p := ⟨g, p + 4, none⟩) hg).trans h4, (hb.cell (p := ⟨g, p + 5, none⟩) hg).trans h5⟩
theorem KidsAt.below {w w' : World} {P Q : Value → Tr → Prop} {ks : Value} {l : List Tr} (h : KidsAt w P ks l) (hb : Below w.heap.size w w') (hPQ : ∀ u t, P u t → Q u t) : KidsAt w' Q ks l := by
  rcases h with h | ⟨h0, g, p, c, e, hc, hc2, hg, hk⟩
  · exact .inl h
  · exact .inr ⟨h0, g, p, c, e, hc, hc2, Nat.lt_of_lt_of_le hg hb.size, fun i hi => by
      obtain ⟨u, hu, hp⟩ := hk i hi
      exact ⟨u, hu.below hg hb, hPQ _ _ hp⟩⟩
theorem ValAt.below {w w' : World} (hb : Below w.heap.size w w') : ∀ (d : Nat) (v : Value) (T : Tr), ValAt w d v T → ValAt w' d v T
  | 0, _, _, h => h
  | d + 1, v, T, h => by
    cases T with
    | non => exact h
    | bool b => exact h
    | int n V =>
      obtain ⟨s, m, e, hm, h1, h2⟩ := h
      exact ⟨s, m, e, hm.below hb, h1, h2⟩
    | flt B => exact h
    | str s => exact h
    | byt s => exact h
    | lst l => obtain ⟨ks, e, hk⟩ := h; exact ⟨ks, e, hk.below hb (fun u t => ValAt.below hb d u t)⟩
    | tup l => obtain ⟨ks, e, hk⟩ := h; exact ⟨ks, e, hk.below hb (fun u t => ValAt.below hb d u t)⟩
    | dic l => obtain ⟨ks, e, hk⟩ := h; exact ⟨ks, e, hk.below hb (fun u t => ValAt.below hb d u t)⟩
    | set l => obtain ⟨ks, e, hk⟩ := h; exact ⟨ks, e, hk.below hb (fun u t => ValAt.below hb d u t)⟩

/-- a slice of values of the package -/
def ElemsAt (w : World) (P : Value → Tr → Prop) (s : Value) (l : List Tr) : Prop :=
  (l = [] ∧ ∃ a c, s = .slice a 0 c) ∨
  (0 < l.length ∧ ∃ g p c, s = .slice (some ⟨g, p, none⟩) l.length c ∧ l.length ≤ c ∧ c ≤ 9223372036854775807 ∧ g < w.heap.size ∧ ∀ i (h : i < l.length), ∃ u, w.cell? ⟨g, p + i, none⟩ = some u ∧ P u l[i])
theorem ElemsAt.below {w w' : World} {P Q : Value → Tr → Prop} {s : Value} {l : List Tr} (h : ElemsAt w P s l) (hb : Below w.heap.size w w') (hPQ : ∀ u t, P u t → Q u t) : ElemsAt w' Q s l := by
  rcases h with h | ⟨h0, g, p, c, e, hc, hc2, hg, hk⟩
  · exact .inl h
  · exact .inr ⟨h0, g, p, c, e, hc, hc2, Nat.lt_of_lt_of_le hg hb.size, fun i hi => by
      obtain ⟨u, hu, hp⟩ := hk i hi
      exact ⟨u, (hb.cell (p := ⟨g, p + i, none⟩) hg).trans hu, hPQ _ _ hp⟩⟩

/-- an entry's five cells, in a table of n entries that was filled from slot 7 down: the slot's number, which cell -/
def htEnt (b n : Nat) (H : Nat → Nat) (K V : Nat → Value) (i r : Nat) : Value :=
  if 8 - n ≤ i then
    (if r = 0 then .int .u32 (H (7 - i)) else if r = 1 then K (7 - i) else if r = 2 then V (7 - i)
     else if r = 3 then (if 8 - n < i then .pointer (some ⟨b, 1 + 5 * (i - 1), none⟩) else .pointer none)
     else (if i = 7 then .pointer (some ⟨b, 44, none⟩) else .pointer (some ⟨b, 1 + 5 * (i + 1) + 3, none⟩)))
  else (if r = 0 then .int .u32 0 else if r = 1 then .nilIface else if r = 2 then .nilIface else .pointer none)
/-- a hash table's cells: laid: it has a table -/
def htCell (b : Nat) (laid : Bool) (n : Nat) (H : Nat → Nat) (K V : Nat → Value) (j : Nat) : Value :=
  if j = 0 then (if laid then .slice (some ⟨b, 1, none⟩) 1 1 else .slice none 0 0)
  else if j < 41 then htEnt b n H K V ((j - 1) / 5) ((j - 1) % 5)
  else if j = 41 then .pointer none
  else if j = 42 then .int .u32 n
  else if j = 43 then .int .u32 0
  else if j = 44 then (if n = 0 then .pointer none else .pointer (some ⟨b, 36, none⟩))
  else if j = 45 then (if laid then (if n = 0 then .pointer (some ⟨b, 44, none⟩) else .pointer (some ⟨b, 1 + 5 * (8 - n) + 3, none⟩)) else .pointer none)
  else .bool false
end Go.Proofs.YtjkmppdmejgjiaaGreatDoor
