/- Walks: Int.Abs; Int.Cmp of equal ones; lehmerGCD by 1. -/
import Derived.Test.YtgohhebffcldeaaGreatDoorRat
set_option linter.unusedVariables false
set_option linter.unusedSimpArgs false
namespace Go.Proofs.YtgohhebffcldeaaGreatDoor
open Go.RowKit
open Num

/-- |x| into a new Int -/
theorem IntAbs_some (b bx ox gx px cx n V : Nat) (ca : Array Value) (tz ta : Nat) (zn xn : Bool) (w : World) (hV : V < 2 ^ (64 * n)) (h0 : 0 < n) (hn : n ≤ 2147483647) (hgx : gx < w.heap.size)
    (hz : w.heap[b]? = some (.cells #[.bool zn, .slice none 0 0] tz (0, 0))) (hx : w.heap[bx]? = some (.cells ca ta (0, 0)))
    (x0 : ca[ox]? = some (.bool xn)) (x1 : ca[ox + 1]? = some (.slice (some ⟨gx, px, none⟩) n cx)) (hne : b ≠ bx)
    (hc : ∀ i, i < n → w.cell? ⟨gx, px + i, none⟩ = some (.int .u64 (wd V i))) :
    Calls Tryz.prog 222 #[.pointer (some ⟨b, 0, none⟩), .pointer (some ⟨bx, ox, none⟩)] w fun e w' => e = .returned (.pointer (some ⟨b, 0, none⟩)) ∧ ∃ g c f, w'.heap[b]? = some (.cells #[.bool false, .slice (some ⟨g, 0, none⟩) n c] tz (0, 0)) ∧ w.heap.size ≤ g ∧ n ≤ c ∧ Row w' g 228 c f ∧ (∀ i, i < n → f i = .int .u64 (wd V i)) ∧ Chg b w w' := by
  have HS := Lib.hid (Int_Set_some b 0 bx ox gx px cx n V #[.bool zn, .slice none 0 0] ca tz ta zn xn w hV h0 hn hgx hz hx rfl rfl x0 x1 hne hc)
  have lb := (Array.getElem?_eq_some_iff.1 hz).1
  clear hz hx x0 x1 hc
  go_enter Tryz.func222, Tryz.ntmps222
  go_wp2_with fail
  refine HS.out.mono ?_
  rintro e w2 ⟨rfl, s, hnew, hch, hh⟩
  rcases hnew with ⟨rfl, _⟩ | ⟨_, _, g, c, f, rfl, hg, hc1, hc2, hrow, hf⟩
  · omega
  have hh2 : w2.heap[b]? = some (.cells #[.bool xn, .slice (some ⟨g, 0, none⟩) n c] tz (0, 0)) := hh
  have q0 := (cell_of_row w2 _ 0 _ _ (0, 0) hh2).trans rfl
  have f0 : ∀ i, w2.frozen? ⟨b, i, none⟩ = false := fun i => by simp [World.frozen?, hh2]
  have HH := Lib.hid hh2; have HC := Lib.hid hch; have HR := Lib.hid hrow; have HF := Lib.hid hf; have HG := Lib.hid hg
  clear hh hh2 hch hrow hf hg
  go_wp2
  go_ret
  have hg := HG.out
  exact ⟨rfl, g, c, f, set1 HH.out, hg, hc1, HR.out.far (by show g ≠ b; omega) _, HF.out, HC.out.set _ _⟩

/-- Cmp of two Ints that are not negative and of one word each, the same -/
theorem Cmp_same1 (b1 b2 g1 g2 c1 c2 V T1 T2 : Nat) (w : World) (hV : V < 2 ^ 64)
    (h1 : w.heap[b1]? = some (.cells #[.bool false, .slice (some ⟨g1, 0, none⟩) 1 c1] T1 (0, 0))) (h2 : w.heap[b2]? = some (.cells #[.bool false, .slice (some ⟨g2, 0, none⟩) 1 c2] T2 (0, 0))) (hne : b1 ≠ b2)
    (k1 : w.cell? ⟨g1, 0, none⟩ = some (.int .u64 V)) (k2 : w.cell? ⟨g2, 0, none⟩ = some (.int .u64 V)) :
    Calls Tryz.prog 151 #[.pointer (some ⟨b1, 0, none⟩), .pointer (some ⟨b2, 0, none⟩)] w fun e w' => e = .returned (.int .i64 0) ∧ ∃ k, w' = w.drewN k := by
  obtain ⟨j, hj, hjs⟩ := info_Int
  have hp := run_eql_ptr_other (P := Tryz.prog) w (a := ⟨b1, 0, none⟩) (b := ⟨b2, 0, none⟩) under_pInt hj hjs (by intro e; injection e with e; exact hne e) h1 h2
  have a0 := (cell_of_row w _ 0 _ _ (0, 0) h1).trans rfl
  have a1 := (cell_of_row w _ 1 _ _ (0, 0) h1).trans rfl
  have b0 := (cell_of_row w _ 0 _ _ (0, 0) h2).trans rfl
  have b1' := (cell_of_row w _ 1 _ _ (0, 0) h2).trans rfl
  have hw : wd V 0 = V := by unfold wd; simp; omega
  have HC := Lib.hid (fun k l => cmp_some g1 0 c1 g2 0 c2 1 V V ((w.drewN k).drewN l) (by omega) (by omega) (by simpa using hV) (by simpa using hV) (fun i hi => by
    obtain rfl : i = 0 := by omega
    rw [hw]; exact k1) (fun i hi => by
    obtain rfl : i = 0 := by omega
    rw [hw]; exact k2))
  have hs : sgn3 V V = 0 := by simp [sgn3]
  rw [hs] at HC
  clear h1 h2 k1 k2 hw hs hj hjs
  go_enter Tryz.func151, Tryz.ntmps151
  go_wp2_with fail
  go_quiet (fail)
  have HC2 := Lib.hid (fun l => HC.out nq l)
  obtain ⟨w0, hw0⟩ : ∃ w0, w0 = w.drewN nq := ⟨_, rfl⟩
  rw [← hw0] at HC2 ⊢
  have d0 : w0.cell? ⟨b1, 0, none⟩ = some (.bool false) := by rw [hw0]; exact a0
  have d1 : w0.cell? ⟨b1, 1, none⟩ = some (.slice (some ⟨g1, 0, none⟩) 1 c1) := by rw [hw0]; exact a1
  have d2 : w0.cell? ⟨b2, 1, none⟩ = some (.slice (some ⟨g2, 0, none⟩) 1 c2) := by rw [hw0]; exact b1'
  have HW0 := Lib.hid hw0
  clear HC hw0
  go_wp2_with fail
  go_quiet ((first | (go_at_call 176; with_reducible exact Calls.quiet_of (HC2.out _))))
  go_wp2
  go_ret
  exact ⟨rfl, _, by rw [HW0.out, World.drewN_drewN]⟩

end Go.Proofs.YtgohhebffcldeaaGreatDoor
