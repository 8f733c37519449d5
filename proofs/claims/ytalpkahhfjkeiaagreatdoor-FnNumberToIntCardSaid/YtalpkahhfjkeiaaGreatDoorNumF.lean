/- Walks: starlark.NumberToInt and impl.NumberToInt of a finite float. -/
import Derived.Test.YtalpkahhfjkeiaaGreatDoorBig2
set_option linter.unusedVariables false
set_option linter.unusedSimpArgs false
namespace Go.Proofs.YtalpkahhfjkeiaaGreatDoor
open Go.RowKit
open Num

set_option maxRecDepth 100000 in
theorem starNum_float (B : Nat) (hB : B < 18446744073709551616) (hf : fexp B ≠ 2047) (w : World) :
    Calls Tryz.prog 13 #[.iface 76 (.float .f64 B)] w fun e w' => ∃ v', e = .returned (.tuple #[v', .nilIface]) ∧ IntIs w' w.heap.size v' (fneg B && decide (0 < fwhole B)) (fwhole B) ∧ Below w.heap.size w w' := by
  have h1 := assert_float_int (.float .f64 B)
  have h2 := assert_float_float (.float .f64 B)
  have hi := IsInf_any B hB (fun q => hf q.1)
  have hd : decide (fexp B = 2047) = false := by simp [hf]
  have hd2 : decide (fexp B = 2047 ∧ ffrac B ≠ 0) = false := by simp [hf]
  have hnn := IsNaN_any B hB
  rw [hd] at hi
  rw [hd2] at hnn
  have HI := Lib.hid hi; have HN := Lib.hid hnn
  have HF := Lib.hid (fun W : World => f2i_any B hB hf W)
  have hob : Below w.heap.size w (w.alloc (.cells #[.int .i64 0, .pointer none] 50)) := (Below.refl _ _).alloc (Nat.le_refl _) _
  have HOB := Lib.hid hob
  have HQ := Lib.hid (heap_alloc_new w (.cells #[.int .i64 0, .pointer none] 50))
  clear hi hnn hd hd2 hf hob
  go_enter Tryz.func13, Tryz.ntmps13
  go_wp2_with fail
  refine (HI.out _).mono ?_
  rintro e w2 ⟨rfl, rfl⟩
  go_wp2_with fail
  refine (HN.out _).mono ?_
  rintro e w3 ⟨rfl, rfl⟩
  go_wp2_with fail
  refine (HF.out _).mono ?_
  rintro e w4 ⟨v, rfl, hI, hb2⟩
  obtain ⟨zz, pp, rfl⟩ := hI.shape
  have hq := (hb2.block w.heap.size (by simp)).trans HQ.out
  have hb3 := HOB.out.trans (hb2.mono (by simp))
  have c0 := (cell_of_row _ _ 0 _ _ (0, 0) hq).trans rfl
  have c1 := (cell_of_row _ _ 1 _ _ (0, 0) hq).trans rfl
  have f0 : ∀ i, w4.frozen? ⟨w.heap.size, i, none⟩ = false := fun i => by simp [World.frozen?, hq]
  have HI4 := Lib.hid hI; have HB3 := Lib.hid hb3; have HQ2 := Lib.hid hq
  clear hI hb2 hb3 hq
  go_wp2
  have hW := set2 (x := .int .i64 zz) (y := .pointer pp) HQ2.out
  have e0 := (cell_of_row _ _ 0 _ _ (0, 0) hW).trans rfl
  have e1 := (cell_of_row _ _ 1 _ _ (0, 0) hW).trans rfl
  exact bodyPost_ret (v := .tuple #[.agg #[.int .i64 zz, .pointer pp], .nilIface]) (by simp [results, Tryz.results13, go_sem, e0, e1]) rfl ⟨_, rfl, ((HI4.out.far (by simp) _).far (by simp) _).base_le (by simp), (HB3.out.setCell (by simp) _).setCell (by simp) _⟩

theorem NumberToInt_float (B : Nat) (hB : B < 18446744073709551616) (hf : fexp B ≠ 2047) (w : World) :
    Calls Tryz.prog 5 #[valOf 3 false (.slice none 0 0) B ⟨#[]⟩] w fun e w' => ∃ s' m, e = .returned (.tuple #[valInt (fneg B && decide (0 < fwhole B)) s', .bool true]) ∧ MagAt w' s' m (fwhole B) ∧ Below w.heap.size w w' := by
  have hb0 : Below w.heap.size w ((w.alloc (.cells #[.int .i64 3, .bool false, .slice none 0 0, .int .u64 B, .string ⟨#[]⟩, .slice none 0 0] 28)).alloc (.cells valZero 28)) := ((Below.refl _ _).alloc (Nat.le_refl _) _).alloc (by simp) _
  have HV := Lib.hid (fun W : World => value_float B hB W)
  obtain ⟨ng, hng⟩ : ∃ ng, ng = (fneg B && decide (0 < fwhole B)) := ⟨_, rfl⟩
  have hneg : ng = true → 0 < fwhole B := fun h => by rw [hng] at h; simp at h; exact h.2
  have HSN := Lib.hid (fun W : World => starNum_float B hB hf W)
  rw [← hng] at HSN ⊢
  have HNEG := Lib.hid hneg
  have HQ := Lib.hid (heap2_1 w (.cells #[.int .i64 3, .bool false, .slice none 0 0, .int .u64 B, .string ⟨#[]⟩, .slice none 0 0] 28) (.cells valZero 28))
  have HB := Lib.hid hb0
  clear hb0 hng hneg hf
  go_enter Tryz.func5, Tryz.ntmps5
  go_wp2_with fail
  refine (HV.out _).mono ?_
  rintro e w2 ⟨rfl, hb2⟩
  go_wp2_with fail
  refine (HSN.out _).mono ?_
  rintro e w3 ⟨v', rfl, hI3, hb3⟩
  obtain ⟨z', q', rfl⟩ := hI3.shape
  have hbx := hb2.trans (hb3.mono hb2.size)
  have HI3 := Lib.hid hI3
  have hR := (hbx.block (w.heap.size + 1) (by simp)).trans HQ.out
  have hb4 := HB.out.trans (hbx.mono (by simp; omega))
  have hsz3 : w.heap.size + 2 ≤ w3.heap.size := by have := hbx.size; simpa using this
  have HR := Lib.hid hR
  have HB4 := Lib.hid hb4
  clear hI3 hb2 hb3 hbx hR hb4
  go_wp2_with fail
  have hb5 : Below w3.heap.size w3 (w3.alloc (.cells #[.int .i64 z', .pointer q'] 50)) := (Below.refl _ _).alloc (Nat.le_refl _) _
  refine (number_any _ _ _ _ _ (HI3.out.below hb5) HNEG.out).mono ?_
  rintro e w4 ⟨s4, m, rfl, hmag, hm4, hnw, hb6⟩
  obtain ⟨a4, c4, rfl⟩ := hmag.shape
  have hR4 := (hb6.block (w.heap.size + 1) (by simp; omega)).trans ((hb5.block (w.heap.size + 1) (by omega)).trans HR.out)
  have hb7 := HB4.out.trans ((hb5.trans (hb6.mono hb5.size)).mono (by omega))
  have hne : ∀ a k c, Value.slice a4 m c4 = .slice (some a) k c → a.block ≠ w.heap.size + 1 := fun a k c e => by have := hnw a k c e; simp at this; omega
  have HM := Lib.hid hmag
  have HNE := Lib.hid hne
  have HR4 := Lib.hid hR4
  have HB7 := Lib.hid hb7
  obtain ⟨x0, x1, x2, x3, x4, x5, xf⟩ := valRow hR4
  clear hmag hnw hb6 hb5 hR4 hb7 hne
  go_wp2
  have hW := set1 (i := 5) (x := .slice none 0 0) (set1 (i := 4) (x := .string ⟨#[]⟩) (set1 (i := 3) (x := .int .u64 0) (set1 (i := 2) (x := .slice a4 m c4) (set1 (i := 1) (x := .bool ng) (set1 (i := 0) (x := .int .i64 2) HR4.out)))))
  obtain ⟨e0, e1, e2, e3, e4, e5, ef⟩ := valRow hW
  refine bodyPost_ret (v := .tuple #[valInt ng (.slice a4 m c4), .bool true]) (by simp [results, Tryz.results5, go_sem, e0, e1, e2, e3, e4, e5]) rfl ⟨_, m, rfl, ?_, ?_⟩
  · exact (((((HM.out.far HNE.out _).far HNE.out _).far HNE.out _).far HNE.out _).far HNE.out _).far HNE.out _
  · exact (((((HB7.out.setCell (by simp) _).setCell (by simp) _).setCell (by simp) _).setCell (by simp) _).setCell (by simp) _).setCell (by simp) _

end Go.Proofs.YtalpkahhfjkeiaaGreatDoor
