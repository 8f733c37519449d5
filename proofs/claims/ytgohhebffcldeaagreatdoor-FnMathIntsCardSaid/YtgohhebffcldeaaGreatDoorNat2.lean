/- Walks: nat's setWord, setUint64, cmp, bitLen, low64; the big-endian readers. -/
import Derived.Test.YtgohhebffcldeaaGreatDoorNat
import Derived.Test.YtgohhebffcldeaaGreatDoorShelf
import Derived.Lib.ItoaNum
set_option linter.unusedVariables false
set_option linter.unusedSimpArgs false
namespace Go.Proofs.YtgohhebffcldeaaGreatDoor
open Go.RowKit
open Num

theorem setWord_zero (a : Option Addr) (n c : Nat) (w : World) :
    Calls Tryz.prog 172 #[.slice a n c, .int .u64 0] w fun e w' => e = .returned (.slice a 0 c) ∧ w = w' := by
  go_enter Tryz.func172, Tryz.ntmps172
  go_wp2
  go_ret
  exact ⟨rfl, rfl⟩
theorem setWord_new (x : Nat) (w : World) (hx : 0 < x) :
    Calls Tryz.prog 172 #[.slice none 0 0, .int .u64 (x : Int)] w fun e w' => ∃ g c, g = w.heap.size ∧ c = 1 ∧ e = .returned (.slice (some ⟨g, 0, none⟩) 1 c) ∧ Below w.heap.size w w' ∧ w'.heap.size = g + 1 ∧
      (∃ f, Row w' g 228 c f ∧ f 0 = .int .u64 (x : Int)) := by
  have hx0 : ((x : Int) == 0) = false := by simp; omega
  go_enter Tryz.func172, Tryz.ntmps172
  go_wp2_with fail
  refine (make_gt _ _ _ 1 _ (by omega) (by omega)).mono ?_
  rintro e w' ⟨c, hc1, ⟨_, hc2⟩, rfl, rfl⟩
  obtain rfl := hc2 rfl
  clear hc2
  have hrow := Row.made w 228 1 (.int .u64 0)
  have hb1 : Below w.heap.size w (w.alloc (.cells (madeCells #[.int .u64 0] 1) 228)) := (Below.refl _ _).alloc (Nat.le_refl _) _
  have hsz : (w.alloc (.cells (madeCells #[.int .u64 0] 1) 228)).heap.size = w.heap.size + 1 := by simp
  obtain ⟨g, hgg⟩ : ∃ g, g = w.heap.size := ⟨_, rfl⟩
  rw [← hgg] at hrow hsz ⊢
  have HG := Lib.hid hgg; clear hgg
  have HZ := Lib.hid hsz; clear hsz
  generalize w.alloc (.cells (madeCells #[.int .u64 0] 1) 228) = w1 at *
  have c0 := hrow.cell (i := 0) (by omega)
  have f0 := hrow.frozen 0
  go_wp2
  go_ret
  refine ⟨g, 1, HG.out, rfl, rfl, ?_, ?_, _, hrow.set 0 _, rfl⟩
  · exact hb1.setCell (by rw [HG.out]; exact Nat.le_refl _) _
  · have := HZ.out; simpa [World.setCell] using this
theorem setUint64_any (x : Nat) (w : World) (hx : 0 < x) (_hl : x ≤ 18446744073709551615) :
    Calls Tryz.prog 191 #[.slice none 0 0, .int .u64 (x : Int)] w fun e w' => ∃ g c, g = w.heap.size ∧ c = 1 ∧ e = .returned (.slice (some ⟨g, 0, none⟩) 1 c) ∧ Below w.heap.size w w' ∧ w'.heap.size = g + 1 ∧
      (∃ f, Row w' g 228 c f ∧ f 0 = .int .u64 (x : Int)) := by
  go_enter Tryz.func191, Tryz.ntmps191
  go_wp2_with fail
  refine (setWord_new x _ hx).mono ?_
  rintro e w' ⟨g, c, hg, rfl, rfl, h⟩
  have HG := Lib.hid hg; clear hg
  have H := Lib.hid h; clear h
  go_wp2
  go_ret
  exact ⟨g, 1, HG.out, rfl, rfl, H.out⟩
theorem setUint64_zero (w : World) :
    Calls Tryz.prog 191 #[.slice none 0 0, .int .u64 0] w fun e w' => e = .returned (.slice none 0 0) ∧ w = w' := by
  go_enter Tryz.func191, Tryz.ntmps191
  go_wp2_with fail
  refine (setWord_zero _ _ _ _).mono ?_
  rintro e w' ⟨rfl, rfl⟩
  go_wp2
  go_ret
  exact ⟨rfl, rfl⟩
theorem low64_some (g o c n V : Nat) (w : World) (h0 : 0 < n) (hn : n ≤ 2147483648)
    (hc : ∀ i, i < n → w.cell? ⟨g, o + i, none⟩ = some (.int .u64 (wd V i))) :
    Calls Tryz.prog 158 #[.slice (some ⟨g, o, none⟩) n c] w fun e w' => e = .returned (.int .u64 (wd V 0)) ∧ w = w' := by
  have hcell : w.cell? ⟨g, o, none⟩ = some (.int .u64 (wd V 0)) := hc 0 h0
  have hn0 : ((n : Int) == 0) = false := by simp; omega
  have hl := wd_lt V 0
  go_enter Tryz.func158, Tryz.ntmps158
  go_wp2
  go_ret
  exact ⟨rfl, rfl⟩
theorem low64_zero (a : Option Addr) (c : Nat) (w : World) :
    Calls Tryz.prog 158 #[.slice a 0 c] w fun e w' => e = .returned (.int .u64 0) ∧ w = w' := by
  go_enter Tryz.func158, Tryz.ntmps158
  go_wp2
  go_ret
  exact ⟨rfl, rfl⟩

/-! the big-endian readers -/
theorem or_u32 (a0 a1 a2 a3 : Nat) (h0 : a0 < 256) (h1 : a1 < 256) (h2 : a2 < 256) (h3 : a3 < 256) :
    bits .or .u32 (bits .or .u32 (bits .or .u32 (a0 : Int) ((a1 : Int) * 256)) ((a2 : Int) * 65536)) ((a3 : Int) * 16777216) = ((a0 + 256 * a1 + 65536 * a2 + 16777216 * a3 : Nat) : Int) := by
  have e1 : bits .or .u32 (a0 : Int) ((a1 : Int) * 256) = ((a0 + 256 * a1 : Nat) : Int) := by
    have := u32_or_nat a0 (a1 * 256) (by omega) (by omega)
    rw [show ((a1 : Int) * 256) = ((a1 * 256 : Nat) : Int) by omega, this]
    congr 1
    have := Nat.two_pow_add_eq_or_of_lt (i := 8) (b := a0) (by omega) a1
    rw [Nat.or_comm, show a1 * 256 = 2 ^ 8 * a1 by omega, ← this]; omega
  have e2 : bits .or .u32 ((a0 + 256 * a1 : Nat) : Int) ((a2 : Int) * 65536) = ((a0 + 256 * a1 + 65536 * a2 : Nat) : Int) := by
    have := u32_or_nat (a0 + 256 * a1) (a2 * 65536) (by omega) (by omega)
    rw [show ((a2 : Int) * 65536) = ((a2 * 65536 : Nat) : Int) by omega, this]
    congr 1
    have := Nat.two_pow_add_eq_or_of_lt (i := 16) (b := a0 + 256 * a1) (by omega) a2
    rw [Nat.or_comm, show a2 * 65536 = 2 ^ 16 * a2 by omega, ← this]; omega
  have e3 : bits .or .u32 ((a0 + 256 * a1 + 65536 * a2 : Nat) : Int) ((a3 : Int) * 16777216) = ((a0 + 256 * a1 + 65536 * a2 + 16777216 * a3 : Nat) : Int) := by
    have := u32_or_nat (a0 + 256 * a1 + 65536 * a2) (a3 * 16777216) (by omega) (by omega)
    rw [show ((a3 : Int) * 16777216) = ((a3 * 16777216 : Nat) : Int) by omega, this]
    congr 1
    have := Nat.two_pow_add_eq_or_of_lt (i := 24) (b := a0 + 256 * a1 + 65536 * a2) (by omega) a3
    rw [Nat.or_comm, show a3 * 16777216 = 2 ^ 24 * a3 by omega, ← this]; omega
  rw [e1, e2, e3]
theorem or_u64 (a b : Nat) (ha : a < 4294967296) (hb : b < 4294967296) : bits .or .u64 ((a : Int) * 4294967296) (b : Int) = ((4294967296 * a + b : Nat) : Int) := by
  have := u64_or_nat (a * 4294967296) b (by omega) (by omega)
  rw [show ((a : Int) * 4294967296) = ((a * 4294967296 : Nat) : Int) by omega, this]
  congr 1
  have := Nat.two_pow_add_eq_or_of_lt (i := 32) (b := b) (by omega) a
  rw [show a * 4294967296 = 2 ^ 32 * a by omega, ← this]
theorem beUint32_any (g o n c : Nat) (a0 a1 a2 a3 : Nat) (w : World) (hn : 4 ≤ n) (hn2 : n ≤ 2147483648) (h0 : a0 < 256) (h1 : a1 < 256) (h2 : a2 < 256) (h3 : a3 < 256)
    (c3 : w.cell? ⟨g, o, none⟩ = some (.int .u8 (a3 : Int))) (c2 : w.cell? ⟨g, o + 1, none⟩ = some (.int .u8 (a2 : Int)))
    (c1 : w.cell? ⟨g, o + 2, none⟩ = some (.int .u8 (a1 : Int))) (c0 : w.cell? ⟨g, o + 3, none⟩ = some (.int .u8 (a0 : Int))) :
    Calls Tryz.prog 182 #[.slice (some ⟨g, o, none⟩) n c] w fun e w' => e = .returned (.int .u32 ((a0 + 256 * a1 + 65536 * a2 + 16777216 * a3 : Nat) : Int)) ∧ ∃ k, w' = w.drewN k := by
  have hor := or_u32 a0 a1 a2 a3 h0 h1 h2 h3
  go_enter Tryz.func182, Tryz.ntmps182
  go_wp2
  go_quiet (fail)
  go_wp2
  go_ret
  exact ⟨rfl, _, rfl⟩
theorem beUint64_any (g o n c : Nat) (B : Nat → Nat) (w : World) (hn : 8 ≤ n) (hnc : n ≤ c) (hn2 : n ≤ 2147483648) (hB : ∀ j, B j < 256)
    (hc : ∀ j, j < 8 → w.cell? ⟨g, o + j, none⟩ = some (.int .u8 (B j : Int))) :
    Calls Tryz.prog 181 #[.slice (some ⟨g, o, none⟩) n c] w fun e w' => e = .returned (.int .u64 ((4294967296 * (B 3 + 256 * B 2 + 65536 * B 1 + 16777216 * B 0) + (B 7 + 256 * B 6 + 65536 * B 5 + 16777216 * B 4) : Nat) : Int)) ∧ ∃ k, w' = w.drewN k := by
  have c0 : w.cell? ⟨g, o, none⟩ = some (.int .u8 (B 0 : Int)) := hc 0 (by omega)
  have c1 := hc 1 (by omega)
  have c2 := hc 2 (by omega)
  have c3 := hc 3 (by omega)
  have c4 := hc 4 (by omega)
  have c5 : w.cell? ⟨g, o + 4 + 1, none⟩ = some (.int .u8 (B 5 : Int)) := hc 5 (by omega)
  have c6 : w.cell? ⟨g, o + 4 + 2, none⟩ = some (.int .u8 (B 6 : Int)) := hc 6 (by omega)
  have c7 : w.cell? ⟨g, o + 4 + 3, none⟩ = some (.int .u8 (B 7 : Int)) := hc 7 (by omega)
  have c7' : w.cell? ⟨g, o + 7, none⟩ = some (.int .u8 (B 7 : Int)) := hc 7 (by omega)
  have H1 := fun k => beUint32_any g o n c (B 3) (B 2) (B 1) (B 0) (w.drewN k) (by omega) hn2 (hB _) (hB _) (hB _) (hB _) (by simpa using c0) (by simpa using c1) (by simpa using c2) (by simpa using c3)
  have H2 := fun k => beUint32_any g (o + 4) (n - 4) (c - 4) (B 7) (B 6) (B 5) (B 4) (w.drewN k) (by omega) (by omega) (hB _) (hB _) (hB _) (hB _) (by simpa using c4) (by simpa using c5) (by simpa using c6) (by simpa using c7)
  have HH1 := Lib.hid H1; clear H1
  have HH2 := Lib.hid H2; clear H2
  have hx : B 3 + 256 * B 2 + 65536 * B 1 + 16777216 * B 0 < 4294967296 := by have := hB 0; have := hB 1; have := hB 2; have := hB 3; omega
  have hy : B 7 + 256 * B 6 + 65536 * B 5 + 16777216 * B 4 < 4294967296 := by have := hB 4; have := hB 5; have := hB 6; have := hB 7; omega
  have HC := Lib.hid hc; clear hc
  have HBB := Lib.hid hB; clear hB
  obtain ⟨x, hxx⟩ : ∃ x, x = B 3 + 256 * B 2 + 65536 * B 1 + 16777216 * B 0 := ⟨_, rfl⟩
  obtain ⟨y, hyy⟩ : ∃ y, y = B 7 + 256 * B 6 + 65536 * B 5 + 16777216 * B 4 := ⟨_, rfl⟩
  rw [← hxx] at hx HH1 ⊢
  rw [← hyy] at hy HH2 ⊢
  clear hxx hyy
  have hor := or_u64 x y hx hy
  go_enter Tryz.func181, Tryz.ntmps181
  go_wp2
  go_quiet ((first | (go_at_call 182; with_reducible exact Calls.quiet_of (HH1.out _)) | (go_at_call 182; with_reducible exact Calls.quiet_of (HH2.out _))))
  go_wp2
  go_ret
  exact ⟨rfl, _, rfl⟩
end Go.Proofs.YtgohhebffcldeaaGreatDoor
