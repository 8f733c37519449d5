/- Walks: impl.scalar, impl.value of integers, floats, strings and bools. -/
import Derived.Test.YtgohhebffcldeaaGreatDoorFl
set_option linter.unusedVariables false
set_option linter.unusedSimpArgs false
namespace Go.Proofs.YtgohhebffcldeaaGreatDoor
open Go.RowKit
open Num

/-- a value of the program that has no kids -/
abbrev valOf (k : Int) (neg : Bool) (s : Value) (bits : Int) (text : ByteArray) : Value := .agg #[.int .i64 k, .bool neg, s, .int .u64 bits, .string text, .slice none 0 0]

abbrev valZero : Array Value := #[.int .i64 0, .bool false, .slice none 0 0, .int .u64 0, .string ⟨#[]⟩, .slice none 0 0]

theorem valRow {w : World} {B : Nat} {T : Nat} {a0 a1 a2 a3 a4 a5 : Value} (h : w.heap[B]? = some (.cells #[a0, a1, a2, a3, a4, a5] T (0, 0))) :
    w.cell? ⟨B, 0, none⟩ = some a0 ∧ w.cell? ⟨B, 1, none⟩ = some a1 ∧ w.cell? ⟨B, 2, none⟩ = some a2 ∧ w.cell? ⟨B, 3, none⟩ = some a3 ∧ w.cell? ⟨B, 4, none⟩ = some a4 ∧ w.cell? ⟨B, 5, none⟩ = some a5 ∧ ∀ i, w.frozen? ⟨B, i, none⟩ = false :=
  ⟨(cell_of_row _ _ 0 _ _ (0, 0) h).trans rfl, (cell_of_row _ _ 1 _ _ (0, 0) h).trans rfl, (cell_of_row _ _ 2 _ _ (0, 0) h).trans rfl, (cell_of_row _ _ 3 _ _ (0, 0) h).trans rfl, (cell_of_row _ _ 4 _ _ (0, 0) h).trans rfl, (cell_of_row _ _ 5 _ _ (0, 0) h).trans rfl, fun i => by simp [World.frozen?, h]⟩

theorem scalar_int (neg : Bool) (s : Value) (n V : Nat) (w : World) (hm : MagAt w s n V) (hn : n ≤ 16777216) (hneg : neg = true → 0 < V) :
    Calls Tryz.prog 23 #[.int .i64 2, valInt neg s] w fun e w' => ∃ v, e = .returned (.tuple #[.iface 97 v, .bool true]) ∧ IntIs w' w.heap.size v neg V ∧ Below w.heap.size w w' := by
  obtain ⟨sa, sc, rfl⟩ := hm.shape
  have hb0 : Below w.heap.size w (w.alloc (.cells #[.int .i64 2, .bool neg, .slice sa n sc, .int .u64 0, .string ⟨#[]⟩, .slice none 0 0] 26)) := (Below.refl _ _).alloc (Nat.le_refl _) _
  have HW := Lib.hid (whole_any 2 neg (.slice sa n sc) 0 ⟨#[]⟩ (.slice none 0 0) n V _ (hm.below hb0) hn hneg rfl rfl)
  have HB := Lib.hid hb0
  clear hm hb0
  go_enter Tryz.func23, Tryz.ntmps23
  go_wp2_with fail
  refine HW.out.mono ?_
  rintro e w' ⟨v, rfl, hI, hb⟩
  go_wp2
  go_ret2
  exact ⟨_, rfl, hI.base_le (by simp), HB.out.trans (hb.mono (by simp))⟩

theorem value_int (neg : Bool) (s : Value) (n V : Nat) (w : World) (hm : MagAt w s n V) (hn : n ≤ 16777216) (hneg : neg = true → 0 < V) :
    Calls Tryz.prog 40 #[valInt neg s] w fun e w' => ∃ v, e = .returned (.tuple #[.iface 97 v, .bool true]) ∧ IntIs w' w.heap.size v neg V ∧ Below w.heap.size w w' := by
  obtain ⟨sa, sc, rfl⟩ := hm.shape
  have hb0 : Below w.heap.size w (w.alloc (.cells #[.int .i64 2, .bool neg, .slice sa n sc, .int .u64 0, .string ⟨#[]⟩, .slice none 0 0] 26)) := (Below.refl _ _).alloc (Nat.le_refl _) _
  have HW := Lib.hid (scalar_int neg (.slice sa n sc) n V _ (hm.below hb0) hn hneg)
  have HB := Lib.hid hb0
  clear hm hb0
  go_enter Tryz.func40, Tryz.ntmps40
  go_wp2_with fail
  refine HW.out.mono ?_
  rintro e w' ⟨v, rfl, hI, hb⟩
  go_wp2
  go_ret2
  exact ⟨_, rfl, hI.base_le (by simp), HB.out.trans (hb.mono (by simp))⟩

theorem errorsNew_any (text : ByteArray) (w : World) :
    Calls Tryz.prog 108 #[.string text] w fun e w' => ∃ p, e = .returned (.iface 212 (.pointer (some p))) ∧ Below w.heap.size w w' := by
  go_enter Tryz.func108, Tryz.ntmps108
  go_wp2
  go_ret
  exact ⟨_, rfl, (Below.refl _ _).alloc (Nat.le_refl _) _⟩

theorem starZero (w : World) :
    Calls Tryz.prog 137 #[] w fun e w' => e = .returned (.agg #[.int .i64 0, .pointer none]) ∧ Below w.heap.size w w' := by
  go_enter Tryz.func137, Tryz.ntmps137
  go_wp2_with fail
  refine (makeSmallInt_any 0 _).mono ?_
  rintro e w' ⟨rfl, rfl⟩
  have hb0 : Below w.heap.size w (w.alloc (.cells #[.int .i64 0, .pointer none] 97)) := (Below.refl _ _).alloc (Nat.le_refl _) _
  go_wp2
  exact bodyPost_ret (v := .agg #[.int .i64 0, .pointer none]) (by simp [results, Tryz.results137, go_sem]) rfl ⟨rfl, hb0.alloc (by simp) _⟩

set_option maxRecDepth 100000 in
theorem starNum_int (v : Value) (base : Nat) (neg : Bool) (V : Nat) (w : World) (hI : IntIs w base v neg V) :
    Calls Tryz.prog 106 #[.iface 97 v] w fun e w' => ∃ v', e = .returned (.tuple #[v', .nilIface]) ∧ IntIs w' base v' neg V ∧ Below w.heap.size w w' := by
  obtain ⟨z, p, rfl⟩ := hI.shape
  have HI := Lib.hid hI; clear hI
  go_enter Tryz.func106, Tryz.ntmps106
  have hta := assert_int_int (.agg #[.int .i64 z, .pointer p])
  go_wp2
  have hb0 : Below w.heap.size w ((w.alloc (.cells #[.int .i64 z, .pointer p] 97)).alloc (.cells #[.int .i64 z, .pointer p] 97)) := ((Below.refl _ _).alloc (Nat.le_refl _) _).alloc (by simp) _
  exact bodyPost_ret (v := .tuple #[.agg #[.int .i64 z, .pointer p], .nilIface]) (by simp [results, Tryz.results106, go_sem]) rfl ⟨_, rfl, HI.out.below hb0, hb0⟩

set_option maxRecDepth 100000 in
theorem scalar_float (bits : Nat) (hb : bits < 18446744073709551616) (w : World) :
    Calls Tryz.prog 23 #[.int .i64 3, valOf 3 false (.slice none 0 0) bits ⟨#[]⟩] w fun e w' => e = .returned (.tuple #[.iface 99 (.float .f64 bits), .bool true]) ∧ Below w.heap.size w w' := by
  have HF := Lib.hid (fun W : World => show Calls Tryz.prog 63 #[.int .u64 bits] W fun e w' => e = .returned (.float .f64 bits) ∧ w' = W from by
    go_enter Tryz.func63, Tryz.ntmps63
    have hfb := run_frombits (bits : Int)
    go_wp2
    go_ret
    exact ⟨rfl, rfl⟩)
  go_enter Tryz.func23, Tryz.ntmps23
  go_wp2_with fail
  refine (HF.out _).mono ?_
  rintro e w' ⟨rfl, rfl⟩
  go_wp2
  go_ret2
  exact ⟨rfl, (Below.refl _ _).alloc (Nat.le_refl _) _⟩

theorem scalar_string (text : ByteArray) (w : World) :
    Calls Tryz.prog 23 #[.int .i64 4, valOf 4 false (.slice none 0 0) 0 text] w fun e w' => e = .returned (.tuple #[.iface 101 (.string text), .bool true]) ∧ Below w.heap.size w w' := by
  go_enter Tryz.func23, Tryz.ntmps23
  go_wp2
  go_ret2
  exact ⟨rfl, (Below.refl _ _).alloc (Nat.le_refl _) _⟩

theorem scalar_bool (bits : Nat) (hb : bits ≤ 1) (w : World) :
    Calls Tryz.prog 23 #[.int .i64 1, valOf 1 false (.slice none 0 0) bits ⟨#[]⟩] w fun e w' => e = .returned (.tuple #[.iface 92 (.bool (bits == 1)), .bool true]) ∧ Below w.heap.size w w' := by
  have h1 : ((bits : Int) == 1) = (bits == 1) := by
    have : bits = 0 ∨ bits = 1 := by omega
    rcases this with rfl | rfl <;> rfl
  have h2 : (bits : Int) ≤ 1 := by omega
  go_enter Tryz.func23, Tryz.ntmps23
  go_wp2_with fail
  go_quiet (fail)
  go_wp2
  go_ret2
  exact ⟨rfl, below_drewN ((Below.refl _ _).alloc (Nat.le_refl _) _)⟩

theorem value_float (bits : Nat) (hb : bits < 18446744073709551616) (w : World) :
    Calls Tryz.prog 40 #[valOf 3 false (.slice none 0 0) bits ⟨#[]⟩] w fun e w' => e = .returned (.tuple #[.iface 99 (.float .f64 bits), .bool true]) ∧ Below w.heap.size w w' := by
  have HW := Lib.hid (fun W : World => scalar_float bits hb W)
  go_enter Tryz.func40, Tryz.ntmps40
  go_wp2_with fail
  refine (HW.out _).mono ?_
  rintro e w' ⟨rfl, hb⟩
  go_wp2
  go_ret2
  exact ⟨rfl, ((Below.refl _ _).alloc (Nat.le_refl _) _).trans (hb.mono (by simp))⟩

theorem value_string (text : ByteArray) (w : World) :
    Calls Tryz.prog 40 #[valOf 4 false (.slice none 0 0) 0 text] w fun e w' => e = .returned (.tuple #[.iface 101 (.string text), .bool true]) ∧ Below w.heap.size w w' := by
  have HW := Lib.hid (fun W : World => scalar_string text W)
  go_enter Tryz.func40, Tryz.ntmps40
  go_wp2_with fail
  refine (HW.out _).mono ?_
  rintro e w' ⟨rfl, hb⟩
  go_wp2
  go_ret2
  exact ⟨rfl, ((Below.refl _ _).alloc (Nat.le_refl _) _).trans (hb.mono (by simp))⟩

theorem value_bool (bits : Nat) (hb : bits ≤ 1) (w : World) :
    Calls Tryz.prog 40 #[valOf 1 false (.slice none 0 0) bits ⟨#[]⟩] w fun e w' => e = .returned (.tuple #[.iface 92 (.bool (bits == 1)), .bool true]) ∧ Below w.heap.size w w' := by
  have HW := Lib.hid (fun W : World => scalar_bool bits hb W)
  go_enter Tryz.func40, Tryz.ntmps40
  go_wp2_with fail
  refine (HW.out _).mono ?_
  rintro e w' ⟨rfl, hb⟩
  go_wp2
  go_ret2
  exact ⟨rfl, ((Below.refl _ _).alloc (Nat.le_refl _) _).trans (hb.mono (by simp))⟩

set_option maxRecDepth 100000 in
theorem starNum_string (text : ByteArray) (w : World) :
    Calls Tryz.prog 106 #[.iface 101 (.string text)] w fun e w' => ∃ p, e = .returned (.tuple #[.agg #[.int .i64 0, .pointer none], .iface 212 (.pointer (some p))]) ∧ Below w.heap.size w w' := by
  have h1 := assert_string_int (.string text)
  have h2 := assert_string_float (.string text)
  have hb0 : Below w.heap.size w (w.alloc (.cells #[.int .i64 0, .pointer none] 97)) := (Below.refl _ _).alloc (Nat.le_refl _) _
  go_enter Tryz.func106, Tryz.ntmps106
  go_wp2_with fail
  refine (starZero _).mono ?_
  rintro e w2 ⟨rfl, hb2⟩
  go_wp2_with fail
  refine (errorsNew_any _ _).mono ?_
  rintro e w3 ⟨p, rfl, hb3⟩
  have hR := (hb3.block w.heap.size (Nat.lt_of_lt_of_le (by simp) hb2.size)).trans ((hb2.block w.heap.size (by simp)).trans (heap_alloc_new w _))
  have hb4 := hb0.trans ((hb2.trans (hb3.mono hb2.size)).mono (by simp))
  have c0 := (cell_of_row w3 _ 0 _ _ (0, 0) hR).trans rfl
  have c1 := (cell_of_row w3 _ 1 _ _ (0, 0) hR).trans rfl
  have f0 : ∀ i, w3.frozen? ⟨w.heap.size, i, none⟩ = false := fun i => by simp [World.frozen?, hR]
  have HR := Lib.hid hR; clear hR hb2 hb3
  go_wp2
  have hW := set2 (x := .int .i64 0) (y := .pointer none) HR.out
  have e0 := (cell_of_row _ _ 0 _ _ (0, 0) hW).trans rfl
  have e1 := (cell_of_row _ _ 1 _ _ (0, 0) hW).trans rfl
  exact bodyPost_ret (v := .tuple #[.agg #[.int .i64 0, .pointer none], .iface 212 (.pointer (some p))]) (by simp [results, Tryz.results106, go_sem, e0, e1]) rfl ⟨p, rfl, (hb4.setCell (Nat.le_refl _) _).setCell (Nat.le_refl _) _⟩

set_option maxRecDepth 100000 in
theorem starNum_bool (b : Bool) (w : World) :
    Calls Tryz.prog 106 #[.iface 92 (.bool b)] w fun e w' => ∃ p, e = .returned (.tuple #[.agg #[.int .i64 0, .pointer none], .iface 212 (.pointer (some p))]) ∧ Below w.heap.size w w' := by
  have h1 := assert_bool_int (.bool b)
  have h2 := assert_bool_float (.bool b)
  have hb0 : Below w.heap.size w (w.alloc (.cells #[.int .i64 0, .pointer none] 97)) := (Below.refl _ _).alloc (Nat.le_refl _) _
  go_enter Tryz.func106, Tryz.ntmps106
  go_wp2_with fail
  refine (starZero _).mono ?_
  rintro e w2 ⟨rfl, hb2⟩
  go_wp2_with fail
  refine (errorsNew_any _ _).mono ?_
  rintro e w3 ⟨p, rfl, hb3⟩
  have hR := (hb3.block w.heap.size (Nat.lt_of_lt_of_le (by simp) hb2.size)).trans ((hb2.block w.heap.size (by simp)).trans (heap_alloc_new w _))
  have hb4 := hb0.trans ((hb2.trans (hb3.mono hb2.size)).mono (by simp))
  have c0 := (cell_of_row w3 _ 0 _ _ (0, 0) hR).trans rfl
  have c1 := (cell_of_row w3 _ 1 _ _ (0, 0) hR).trans rfl
  have f0 : ∀ i, w3.frozen? ⟨w.heap.size, i, none⟩ = false := fun i => by simp [World.frozen?, hR]
  have HR := Lib.hid hR; clear hR hb2 hb3
  go_wp2
  have hW := set2 (x := .int .i64 0) (y := .pointer none) HR.out
  have e0 := (cell_of_row _ _ 0 _ _ (0, 0) hW).trans rfl
  have e1 := (cell_of_row _ _ 1 _ _ (0, 0) hW).trans rfl
  exact bodyPost_ret (v := .tuple #[.agg #[.int .i64 0, .pointer none], .iface 212 (.pointer (some p))]) (by simp [results, Tryz.results106, go_sem, e0, e1]) rfl ⟨p, rfl, (hb4.setCell (Nat.le_refl _) _).setCell (Nat.le_refl _) _⟩

end Go.Proofs.YtgohhebffcldeaaGreatDoor
