/- Walks: impl.number: a given value out of an integer of the program. -/
import Derived.Test.YtgohhebffcldeaaGreatDoorInt3
set_option linter.unusedVariables false
set_option linter.unusedSimpArgs false
namespace Go.Proofs.YtgohhebffcldeaaGreatDoor
open Go.RowKit
open Num

theorem belowN {B : Nat} {a w : World} (h : Below B a w) (n : Nat) : Below B a (w.drewN n) := ⟨h.os, h.tape, h.output, h.size, h.block⟩

theorem get_any (z : Int) (p : Option Addr) (w : World) :
    Calls Tryz.prog 145 #[.agg #[.int .i64 z, .pointer p]] w fun e w' => e = .returned (.tuple #[.int .i64 z, .pointer p]) ∧ Below w.heap.size w w' := by
  go_enter Tryz.func145, Tryz.ntmps145
  go_wp2
  go_quiet (fail)
  go_wp2
  go_ret2
  exact ⟨rfl, by first | exact (Below.refl _ _).alloc (Nat.le_refl _) _ | exact belowN ((Below.refl _ _).alloc (Nat.le_refl _) _) _⟩

theorem NewInt_zero (w : World) :
    Calls Tryz.prog 159 #[.int .i64 0] w fun e w' => e = .returned (.pointer (some ⟨w.heap.size, 0, none⟩)) ∧ w' = w.alloc (.cells #[.bool false, .slice none 0 0] 142) := by
  go_enter Tryz.func159, Tryz.ntmps159
  go_wp2
  go_ret
  exact ⟨rfl, rfl⟩
theorem NewInt_pos (V : Nat) (w : World) (h0 : 0 < V) (hV : V ≤ 9223372036854775807) :
    Calls Tryz.prog 159 #[.int .i64 (V : Int)] w fun e w' => e = .returned (.pointer (some ⟨w.heap.size + 1, 0, none⟩)) ∧ w' = (w.alloc (.cells #[.int .u64 (V : Int)] 228)).alloc (.cells #[.bool false, .slice (some ⟨w.heap.size, 0, none⟩) 1 1] 142) := by
  have e0 : ((V : Int) == 0) = false := by simp; omega
  have e1 : ¬ ((V : Int) < 0) := by omega
  go_enter Tryz.func159, Tryz.ntmps159
  go_wp2
  go_ret
  exact ⟨rfl, rfl⟩
theorem NewInt_neg (V : Nat) (w : World) (h0 : 0 < V) (hV : V ≤ 9223372036854775808) :
    Calls Tryz.prog 159 #[.int .i64 (-(V : Int))] w fun e w' => e = .returned (.pointer (some ⟨w.heap.size + 1, 0, none⟩)) ∧ w' = (w.alloc (.cells #[.int .u64 (V : Int)] 228)).alloc (.cells #[.bool true, .slice (some ⟨w.heap.size, 0, none⟩) 1 1] 142) := by
  have e0 : ((-(V : Int)) == 0) = false := by simp; omega
  have e1 : (-(V : Int)) < 0 := by omega
  have e2 : IntKind.u64.wrap (-(IntKind.u64.wrap (-(V : Int)))) = (V : Int) := by
    simp only [IntKind.wrap_u64]; omega
  have e3 : IntKind.u64.wrap (-(V : Int)) = 18446744073709551616 - (V : Int) := by
    simp only [IntKind.wrap_u64]; omega
  clear e3
  go_enter Tryz.func159, Tryz.ntmps159
  go_wp2
  go_ret
  exact ⟨rfl, rfl⟩

theorem Sign_any (b o n c : Nat) (a : Option Addr) (neg : Bool) (w : World) (x0 : w.cell? ⟨b, o, none⟩ = some (.bool neg)) (x1 : w.cell? ⟨b, o + 1, none⟩ = some (.slice a n c)) :
    Calls Tryz.prog 133 #[.pointer (some ⟨b, o, none⟩)] w fun e w' => e = .returned (.int .i64 (if n = 0 then 0 else if neg then -1 else 1)) ∧ w = w' := by
  by_cases hn : n = 0
  · subst hn
    go_enter Tryz.func133, Tryz.ntmps133
    go_wp2
    go_ret
    exact ⟨rfl, rfl⟩
  · have e0 : ((n : Int) == 0) = false := by simp; omega
    cases neg
    all_goals
      go_enter Tryz.func133, Tryz.ntmps133
      go_wp2
      go_ret
      exact ⟨by simp [hn], rfl⟩

theorem sm_bound {neg : Bool} {V : Nat} (h : sm neg V = true) : V ≤ 2147483648 := by
  cases neg <;> simp [sm] at h <;> omega
theorem nw_one {V : Nat} (h0 : 0 < V) (hV : V ≤ 9223372036854775808) : Nw 1 V := ⟨by simp; omega, fun _ => by simp; omega⟩
theorem wd_zero_small {V : Nat} (hV : V ≤ 9223372036854775808) : wd V 0 = V := by unfold wd; simp; omega
/-- an integer of one word, made anew -/
theorem obj_one {w : World} {V : Nat} {neg : Bool} (h0 : 0 < V) (hV : V ≤ 9223372036854775808) :
    IntObj ((w.alloc (.cells #[.int .u64 (V : Int)] 228)).alloc (.cells #[.bool neg, .slice (some ⟨w.heap.size, 0, none⟩) 1 1] 142)) (w.heap.size + 1) 0 neg 1 V := by
  refine ⟨#[.bool neg, .slice (some ⟨w.heap.size, 0, none⟩) 1 1], 142, _, ?_, rfl, rfl, nw_one h0 hV, by omega, .inr ⟨by omega, w.heap.size, 0, 1, rfl, by simp; omega, fun i hi => ?_⟩⟩
  · have := heap_alloc_new (w.alloc (.cells #[.int .u64 (V : Int)] 228)) (.cells #[.bool neg, .slice (some ⟨w.heap.size, 0, none⟩) 1 1] 142)
    simpa using this
  · obtain rfl : i = 0 := by omega
    have h := (Below.heap_alloc (w.alloc (.cells #[.int .u64 (V : Int)] 228)) (.cells #[.bool neg, .slice (some ⟨w.heap.size, 0, none⟩) 1 1] 142) w.heap.size (by simp)).trans (heap_alloc_new w _)
    rw [cell_of_row _ _ 0 _ _ (0, 0) h, wd_zero_small hV]; rfl

/-- BigInt: an object of its own that holds the integer -/
theorem BigInt_any (base : Nat) (v : Value) (neg : Bool) (V : Nat) (w : World) (h : IntIs w base v neg V) (hneg : neg = true → 0 < V) :
    Calls Tryz.prog 132 #[v] w fun e w' => ∃ b n a c, e = .returned (.pointer (some ⟨b, 0, none⟩)) ∧ w.heap.size ≤ b ∧ IntObj w' b 0 neg n V ∧ w'.heap[b]? = some (.cells #[.bool neg, .slice a n c] 142 (0, 0)) ∧ Below w.heap.size w w' := by
  rcases h with ⟨hs, rfl⟩ | ⟨hs, b, s, n, g, c, f, rfl, hbb, hh, h0, hN, hn, rfl, hg, hnc, hc, hr, hf⟩
  · have hV := sm_bound hs
    obtain ⟨z, hz⟩ : ∃ z : Int, z = (if neg then -(V : Int) else (V : Int)) := ⟨_, rfl⟩
    have HZ := Lib.hid hz
    rw [← hz]
    have HG := Lib.hid (fun W => get_any z none W)
    clear hz hs
    go_enter Tryz.func132, Tryz.ntmps132
    go_wp2_with fail
    refine (HG.out _).mono ?_
    rintro e w2 ⟨rfl, hb2⟩
    have hb : Below w.heap.size w w2 := ((Below.refl _ _).alloc (Nat.le_refl _) _).trans (hb2.mono (by simp))
    clear hb2
    go_wp2_with fail
    by_cases hV0 : V = 0
    · subst hV0
      have hn0 : neg = false := by cases neg; rfl; exact absurd (hneg rfl) (by omega)
      subst hn0
      have hz0 : z = 0 := by have := HZ.out; simpa using this
      subst hz0
      refine (NewInt_zero w2).mono ?_
      rintro e w3 ⟨rfl, rfl⟩
      go_wp2
      go_ret
      refine ⟨w2.heap.size, 0, none, 0, rfl, hb.size, ⟨_, _, _, heap_alloc_new w2 _, rfl, rfl, ⟨by simp, fun h => absurd h (by omega)⟩, by omega, .inl ⟨rfl, _, _, rfl⟩⟩, heap_alloc_new w2 _, hb.alloc hb.size _⟩
    · cases neg
      · have hz0 : z = (V : Int) := by have := HZ.out; simpa using this
        subst hz0
        refine (NewInt_pos V w2 (by omega) (by omega)).mono ?_
        rintro e w3 ⟨rfl, rfl⟩
        have HO := Lib.hid (obj_one (w := w2) (V := V) (neg := false) (by omega) (by omega))
        go_wp2
        go_ret
        exact ⟨w2.heap.size + 1, 1, _, 1, rfl, by have := hb.size; omega, HO.out, by have := heap_alloc_new (w2.alloc (.cells #[.int .u64 (V : Int)] 228)) (.cells #[.bool false, .slice (some ⟨w2.heap.size, 0, none⟩) 1 1] 142); simpa using this, (hb.alloc hb.size _).alloc (by have := hb.size; simp; omega) _⟩
      · have hz0 : z = -(V : Int) := by have := HZ.out; simpa using this
        subst hz0
        refine (NewInt_neg V w2 (by omega) (by omega)).mono ?_
        rintro e w3 ⟨rfl, rfl⟩
        have HO := Lib.hid (obj_one (w := w2) (V := V) (neg := true) (by omega) (by omega))
        go_wp2
        go_ret
        exact ⟨w2.heap.size + 1, 1, _, 1, rfl, by have := hb.size; omega, HO.out, by have := heap_alloc_new (w2.alloc (.cells #[.int .u64 (V : Int)] 228)) (.cells #[.bool true, .slice (some ⟨w2.heap.size, 0, none⟩) 1 1] 142); simpa using this, (hb.alloc hb.size _).alloc (by have := hb.size; simp; omega) _⟩
  · have HG := Lib.hid (fun W => get_any 0 (some ⟨b, 0, none⟩) W)
    have HH := Lib.hid hh
    have hbl := (Array.getElem?_eq_some_iff.1 hh).1
    have hgl := hr.lt
    have HR := Lib.hid hr; clear hr
    have HF := Lib.hid hf; clear hf
    have HN := Lib.hid hN; clear hN
    clear hs hh
    go_enter Tryz.func132, Tryz.ntmps132
    go_wp2_with fail
    refine (HG.out _).mono ?_
    rintro e w2 ⟨rfl, hb2⟩
    have hb : Below w.heap.size w w2 := ((Below.refl _ _).alloc (Nat.le_refl _) _).trans (hb2.mono (by simp))
    clear hb2
    have HSET := Lib.hid (Int_Set_some w2.heap.size 0 b 0 g 0 c n V #[.bool false, .slice none 0 0] _ 142 _ false neg (w2.alloc (.cells #[.bool false, .slice none 0 0] 142)) HN.out.1 h0 (by omega) (by have := hb.size; simp; omega)
      (heap_alloc_new w2 _) ((Below.heap_alloc _ _ _ (by have := hb.size; omega)).trans ((hb.block b hbl).trans HH.out)) rfl rfl rfl rfl (by have := hb.size; omega)
      (fun i hi => by
        rw [World.cell?_of_block (w := w2) (a := ⟨g, 0 + i, none⟩) (Below.heap_alloc w2 _ g (by have := hb.size; omega)), hb.cell (p := ⟨g, 0 + i, none⟩) hgl, Nat.zero_add, HR.out.cell (by omega), HF.out i hi]))
    go_wp2_with fail
    refine HSET.out.mono ?_
    rintro e w3 ⟨rfl, hset⟩
    have HS3 := Lib.hid hset; clear hset
    go_wp2
    go_ret
    obtain ⟨a', c', hsh, _⟩ := HS3.out.shape
    have hch := HS3.out.choose_spec.2.1
    refine ⟨w2.heap.size, n, a', c', rfl, hb.size, HS3.out.obj HN.out hn (by simp), hsh, Chg.below (hb.alloc hb.size _) (by have := hb.size; simp; omega) hch hb.size⟩

end Go.Proofs.YtgohhebffcldeaaGreatDoor
