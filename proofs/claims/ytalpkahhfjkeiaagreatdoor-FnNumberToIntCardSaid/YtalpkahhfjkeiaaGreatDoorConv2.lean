/- Walks: impl.NumberToInt of integers, strings and bools. -/
import Derived.Test.YtalpkahhfjkeiaaGreatDoorConv
set_option linter.unusedVariables false
set_option linter.unusedSimpArgs false
namespace Go.Proofs.YtalpkahhfjkeiaaGreatDoor
open Go.RowKit
open Num

abbrev valZero : Array Value := #[.int .i64 0, .bool false, .slice none 0 0, .int .u64 0, .string ⟨#[]⟩, .slice none 0 0]

theorem valRow {w : World} {B : Nat} {T : Nat} {a0 a1 a2 a3 a4 a5 : Value} (h : w.heap[B]? = some (.cells #[a0, a1, a2, a3, a4, a5] T (0, 0))) :
    w.cell? ⟨B, 0, none⟩ = some a0 ∧ w.cell? ⟨B, 1, none⟩ = some a1 ∧ w.cell? ⟨B, 2, none⟩ = some a2 ∧ w.cell? ⟨B, 3, none⟩ = some a3 ∧ w.cell? ⟨B, 4, none⟩ = some a4 ∧ w.cell? ⟨B, 5, none⟩ = some a5 ∧ ∀ i, w.frozen? ⟨B, i, none⟩ = false :=
  ⟨(cell_of_row _ _ 0 _ _ (0, 0) h).trans rfl, (cell_of_row _ _ 1 _ _ (0, 0) h).trans rfl, (cell_of_row _ _ 2 _ _ (0, 0) h).trans rfl, (cell_of_row _ _ 3 _ _ (0, 0) h).trans rfl, (cell_of_row _ _ 4 _ _ (0, 0) h).trans rfl, (cell_of_row _ _ 5 _ _ (0, 0) h).trans rfl, fun i => by simp [World.frozen?, h]⟩

theorem NumberToInt_int (neg : Bool) (s : Value) (n V : Nat) (w : World) (hm : MagAt w s n V) (hn : n ≤ 16777216) (hneg : neg = true → 0 < V) :
    Calls Tryz.prog 5 #[valInt neg s] w fun e w' => ∃ s' m, e = .returned (.tuple #[valInt neg s', .bool true]) ∧ MagAt w' s' m V ∧ Below w.heap.size w w' := by
  obtain ⟨sa, sc, rfl⟩ := hm.shape
  have hb0 : Below w.heap.size w ((w.alloc (.cells #[.int .i64 2, .bool neg, .slice sa n sc, .int .u64 0, .string ⟨#[]⟩, .slice none 0 0] 28)).alloc (.cells valZero 28)) := ((Below.refl _ _).alloc (Nat.le_refl _) _).alloc (by simp) _
  have HV := Lib.hid (value_int neg (.slice sa n sc) n V _ (hm.below hb0) hn hneg)
  have HQ := Lib.hid (heap2_1 w (.cells #[.int .i64 2, .bool neg, .slice sa n sc, .int .u64 0, .string ⟨#[]⟩, .slice none 0 0] 28) (.cells valZero 28))
  have HB := Lib.hid hb0
  clear hm hb0
  go_enter Tryz.func5, Tryz.ntmps5
  go_wp2_with fail
  refine HV.out.mono ?_
  rintro e w2 ⟨v, rfl, hI, hb2⟩
  obtain ⟨z, q, rfl⟩ := hI.shape
  go_wp2_with fail
  refine (starNum_int _ _ _ _ _ hI).mono ?_
  rintro e w3 ⟨v', rfl, hI3, hb3⟩
  obtain ⟨z', q', rfl⟩ := hI3.shape
  have hbx := hb2.trans (hb3.mono hb2.size)
  have HI3 := Lib.hid hI3
  have hR := (hbx.block (w.heap.size + 1) (by simp)).trans HQ.out
  have hb4 := HB.out.trans (hbx.mono (by simp; omega))
  have hsz3 : w.heap.size + 2 ≤ w3.heap.size := by have := hbx.size; simpa using this
  have HR := Lib.hid hR
  have HB4 := Lib.hid hb4
  clear hI hI3 hb2 hb3 hbx hR hb4
  go_wp2_with fail
  have hb5 : Below w3.heap.size w3 (w3.alloc (.cells #[.int .i64 z', .pointer q'] 50)) := (Below.refl _ _).alloc (Nat.le_refl _) _
  refine (number_any _ _ _ _ _ (HI3.out.below hb5) hneg).mono ?_
  rintro e w4 ⟨s4, m, rfl, hmag, hm4, hnw, hb6⟩
  obtain ⟨a4, c4, rfl⟩ := hmag.shape
  have hR4 := (hb6.block (w.heap.size + 1) (by simp; omega)).trans ((hb5.block (w.heap.size + 1) (by omega)).trans HR.out)
  have hb7 := HB4.out.trans ((hb5.trans (hb6.mono hb5.size)).mono (by omega))
  have hne : ∀ a k c, Value.slice a4 m c4 = .slice (some a) k c → a.block ≠ w.heap.size + 1 := fun a k c e => by have := hnw a k c e; simp at this; omega
  have HM := Lib.hid hmag
  have HNE := Lib.hid hne
  have HR4 := Lib.hid hR4
  have HB7 := Lib.hid hb7
  obtain ⟨x0, x1, x2, x3, x4, x5, xf⟩ := valRow hR4
  clear hmag hnw hb6 hb5 hR4 hb7 hne
  go_wp2
  have hW := set1 (i := 5) (x := .slice none 0 0) (set1 (i := 4) (x := .string ⟨#[]⟩) (set1 (i := 3) (x := .int .u64 0) (set1 (i := 2) (x := .slice a4 m c4) (set1 (i := 1) (x := .bool neg) (set1 (i := 0) (x := .int .i64 2) HR4.out)))))
  obtain ⟨e0, e1, e2, e3, e4, e5, ef⟩ := valRow hW
  refine bodyPost_ret (v := .tuple #[valInt neg (.slice a4 m c4), .bool true]) (by simp [results, Tryz.results5, go_sem, e0, e1, e2, e3, e4, e5]) rfl ⟨_, m, rfl, ?_, ?_⟩
  · exact (((((HM.out.far HNE.out _).far HNE.out _).far HNE.out _).far HNE.out _).far HNE.out _).far HNE.out _
  · exact (((((HB7.out.setCell (by simp) _).setCell (by simp) _).setCell (by simp) _).setCell (by simp) _).setCell (by simp) _).setCell (by simp) _

theorem NumberToInt_string (text : ByteArray) (w : World) :
    Calls Tryz.prog 5 #[valOf 4 false (.slice none 0 0) 0 text] w fun e w' => e = .returned (.tuple #[valOf 0 false (.slice none 0 0) 0 ⟨#[]⟩, .bool false]) ∧ Below w.heap.size w w' := by
  have hb0 : Below w.heap.size w ((w.alloc (.cells #[.int .i64 4, .bool false, .slice none 0 0, .int .u64 0, .string text, .slice none 0 0] 28)).alloc (.cells valZero 28)) := ((Below.refl _ _).alloc (Nat.le_refl _) _).alloc (by simp) _
  have HV := Lib.hid (fun W : World => value_string text W)
  have HQ := Lib.hid (heap2_1 w (.cells #[.int .i64 4, .bool false, .slice none 0 0, .int .u64 0, .string text, .slice none 0 0] 28) (.cells valZero 28))
  have HB := Lib.hid hb0
  clear hb0
  go_enter Tryz.func5, Tryz.ntmps5
  go_wp2_with fail
  refine (HV.out _).mono ?_
  rintro e w2 ⟨rfl, hb2⟩
  go_wp2_with fail
  refine (starNum_string _ _).mono ?_
  rintro e w3 ⟨q, rfl, hb3⟩
  have hbx := hb2.trans (hb3.mono hb2.size)
  have hR := (hbx.block (w.heap.size + 1) (by simp)).trans HQ.out
  have hb4 := HB.out.trans (hbx.mono (by simp; omega))
  have hsz3 : w.heap.size + 2 ≤ w3.heap.size := by have := hbx.size; simpa using this
  have hR4 := (Below.heap_alloc w3 (.cells #[.int .i64 0, .pointer none] 50) (w.heap.size + 1) (by omega)).trans hR
  have hb7 : Below w.heap.size w (w3.alloc (.cells #[.int .i64 0, .pointer none] 50)) := hb4.alloc (by omega) _
  have HR4 := Lib.hid hR4
  have HB7 := Lib.hid hb7
  obtain ⟨x0, x1, x2, x3, x4, x5, xf⟩ := valRow hR4
  clear hb2 hb3 hbx hR hb4 hR4 hb7
  go_wp2
  have hW := set1 (i := 5) (x := .slice none 0 0) (set1 (i := 4) (x := .string ⟨#[]⟩) (set1 (i := 3) (x := .int .u64 0) (set1 (i := 2) (x := .slice none 0 0) (set1 (i := 1) (x := .bool false) (set1 (i := 0) (x := .int .i64 0) HR4.out)))))
  obtain ⟨e0, e1, e2, e3, e4, e5, ef⟩ := valRow hW
  refine bodyPost_ret (v := .tuple #[valOf 0 false (.slice none 0 0) 0 ⟨#[]⟩, .bool false]) (by simp [results, Tryz.results5, go_sem, e0, e1, e2, e3, e4, e5]) rfl ⟨rfl, ?_⟩
  exact (((((HB7.out.setCell (by simp) _).setCell (by simp) _).setCell (by simp) _).setCell (by simp) _).setCell (by simp) _).setCell (by simp) _

theorem NumberToInt_bool (bits : Nat) (hb : bits ≤ 1) (w : World) :
    Calls Tryz.prog 5 #[valOf 1 false (.slice none 0 0) bits ⟨#[]⟩] w fun e w' => e = .returned (.tuple #[valOf 0 false (.slice none 0 0) 0 ⟨#[]⟩, .bool false]) ∧ Below w.heap.size w w' := by
  have hb0 : Below w.heap.size w ((w.alloc (.cells #[.int .i64 1, .bool false, .slice none 0 0, .int .u64 bits, .string ⟨#[]⟩, .slice none 0 0] 28)).alloc (.cells valZero 28)) := ((Below.refl _ _).alloc (Nat.le_refl _) _).alloc (by simp) _
  have HV := Lib.hid (fun W : World => value_bool bits hb W)
  have HQ := Lib.hid (heap2_1 w (.cells #[.int .i64 1, .bool false, .slice none 0 0, .int .u64 bits, .string ⟨#[]⟩, .slice none 0 0] 28) (.cells valZero 28))
  have HB := Lib.hid hb0
  clear hb0
  go_enter Tryz.func5, Tryz.ntmps5
  go_wp2_with fail
  refine (HV.out _).mono ?_
  rintro e w2 ⟨rfl, hb2⟩
  go_wp2_with fail
  refine (starNum_bool _ _).mono ?_
  rintro e w3 ⟨q, rfl, hb3⟩
  have hbx := hb2.trans (hb3.mono hb2.size)
  have hR := (hbx.block (w.heap.size + 1) (by simp)).trans HQ.out
  have hb4 := HB.out.trans (hbx.mono (by simp; omega))
  have hsz3 : w.heap.size + 2 ≤ w3.heap.size := by have := hbx.size; simpa using this
  have hR4 := (Below.heap_alloc w3 (.cells #[.int .i64 0, .pointer none] 50) (w.heap.size + 1) (by omega)).trans hR
  have hb7 : Below w.heap.size w (w3.alloc (.cells #[.int .i64 0, .pointer none] 50)) := hb4.alloc (by omega) _
  have HR4 := Lib.hid hR4
  have HB7 := Lib.hid hb7
  obtain ⟨x0, x1, x2, x3, x4, x5, xf⟩ := valRow hR4
  clear hb2 hb3 hbx hR hb4 hR4 hb7
  go_wp2
  have hW := set1 (i := 5) (x := .slice none 0 0) (set1 (i := 4) (x := .string ⟨#[]⟩) (set1 (i := 3) (x := .int .u64 0) (set1 (i := 2) (x := .slice none 0 0) (set1 (i := 1) (x := .bool false) (set1 (i := 0) (x := .int .i64 0) HR4.out)))))
  obtain ⟨e0, e1, e2, e3, e4, e5, ef⟩ := valRow hW
  refine bodyPost_ret (v := .tuple #[valOf 0 false (.slice none 0 0) 0 ⟨#[]⟩, .bool false]) (by simp [results, Tryz.results5, go_sem, e0, e1, e2, e3, e4, e5]) rfl ⟨rfl, ?_⟩
  exact (((((HB7.out.setCell (by simp) _).setCell (by simp) _).setCell (by simp) _).setCell (by simp) _).setCell (by simp) _).setCell (by simp) _

end Go.Proofs.YtalpkahhfjkeiaaGreatDoor
