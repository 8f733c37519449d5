import Derived.Test.YtpcleebnfgnhdaaGreatDoorGz17
import Derived.Test.YtpcleebnfgnhdaaGreatDoorGz11
import Derived.Test.YtpcleebnfgnhdaaGreatDoorGz6
import Derived.Deep.CutBlock
/- Walks: nat.set and Int.Set of one word. Walks: shifts by 0; SetUint64 of 0; Rat.norm of 0. Walks: Rat.norm of 0; Rat.SetFloat64 of any finite float. -/
set_option linter.unusedVariables false
set_option linter.unusedSimpArgs false
namespace Go.Proofs.YtpcleebnfgnhdaaGreatDoor
open Go.RowKit
open Num

theorem set_one (gx ox cx V : Nat) (w : World) (hg : gx < w.heap.size)
    (hc : ∀ i, i < 1 → w.cell? ⟨gx, ox + i, none⟩ = some (.int .u64 (wd V i))) :
    Calls Tryz.prog 125 #[.slice none 0 0, .slice (some ⟨gx, ox, none⟩) 1 cx] w fun e w' => ∃ g, g = w.heap.size ∧ e = .returned (.slice (some ⟨g, 0, none⟩) 1 1) ∧ Below w.heap.size w w' ∧
      (∃ f, Row w' g 246 1 f ∧ ∀ i, i < 1 → f i = .int .u64 (wd V i)) := by
  go_enter Tryz.func125, Tryz.ntmps125
  go_wp2_with fail
  refine (make_gt _ _ _ 1 _ (by omega) (by omega)).mono ?_
  rintro e w' ⟨c, hc1, ⟨_, hc2⟩, rfl, rfl⟩
  obtain rfl := hc2 rfl
  clear hc2
  have hrow := Row.made w 246 1 (.int .u64 0)
  have hcx2 : ∀ i, i < 1 → (w.alloc (.cells (madeCells #[.int .u64 0] 1) 246)).cell? ⟨gx, ox + i, none⟩ = some (.int .u64 (wd V i)) := fun i hi => (World.cell?_of_block (w := w) (Below.heap_alloc w _ gx hg)).trans (hc i hi)
  have hb1 : Below w.heap.size w (w.alloc (.cells (madeCells #[.int .u64 0] 1) 246)) := (Below.refl _ _).alloc (Nat.le_refl _) _
  obtain ⟨g, hgg⟩ : ∃ g, g = w.heap.size := ⟨_, rfl⟩
  rw [← hgg] at hrow ⊢
  have HG := Lib.hid hgg; clear hgg
  generalize w.alloc (.cells (madeCells #[.int .u64 0] 1) 246) = w1 at *
  have hk := Lib.hid (show 1 = Nat.min 1 1 by simp)
  go_wp2_with ((with_reducible show wpList _ _ _ _ _ _); refine wpList_copy_fn rfl (.tmp 9) (.tmp 10) 210 210 rfl 246 natUnder natSize g 0 1 1 1 cx (some ⟨gx, ox, none⟩) rfl rfl 246 1 _ (fun i => .int .u64 (wd V i)) hrow 1 hk.out (fun _ => ⟨_, rfl, fun j hj => by rw [add_at]; exact hcx2 j hj⟩) (fun _ _ => rfl) (by omega) ?_; intro w2 hr2 hch)
  go_ret
  refine ⟨g, HG.out, rfl, ?_, _, hr2.out, fun i hi => ?_⟩
  · exact Chg.below hb1 hb1.size hch.out.1 (by rw [HG.out]; exact Nat.le_refl _)
  · show (if _ then _ else _) = _
    rw [if_pos ⟨by omega, by omega⟩, Nat.sub_zero]

theorem Int_Set_one (b o bx ox gx px cx V : Nat) (cz ca : Array Value) (tz ta : Nat) (zn xn : Bool) (w : World) (hgx : gx < w.heap.size)
    (hz : w.heap[b]? = some (.cells cz tz (0, 0))) (hx : w.heap[bx]? = some (.cells ca ta (0, 0)))
    (z0 : cz[o]? = some (.bool zn)) (z1 : cz[o + 1]? = some (.slice none 0 0))
    (x0 : ca[ox]? = some (.bool xn)) (x1 : ca[ox + 1]? = some (.slice (some ⟨gx, px, none⟩) 1 cx)) (hne : b ≠ bx)
    (hc : ∀ i, i < 1 → w.cell? ⟨gx, px + i, none⟩ = some (.int .u64 (wd V i))) :
    Calls Tryz.prog 91 #[.pointer (some ⟨b, o, none⟩), .pointer (some ⟨bx, ox, none⟩)] w fun e w' => e = .returned (.pointer (some ⟨b, o, none⟩)) ∧ ∃ g f, w'.heap[b]? = some (.cells ((cz.setIfInBounds (o + 1) (.slice (some ⟨g, 0, none⟩) 1 1)).setIfInBounds o (.bool xn)) tz (0, 0)) ∧ w.heap.size ≤ g ∧ Row w' g 246 1 f ∧ f 0 = .int .u64 (wd V 0) ∧ Chg b w w' := by
  have HS := fun W hb h => Lib.hid (set_one gx px cx V W hb h)
  obtain ⟨j, hj, hjs⟩ := info_Int
  have hp := run_neq_ptr_other (P := Tryz.prog) w (a := ⟨b, o, none⟩) (b := ⟨bx, ox, none⟩) under_pInt hj hjs (by intro e; injection e with e; exact hne e) hz hx
  have hz0 : w.cell? ⟨b, o, none⟩ = some (.bool zn) := (cell_of_row w b o cz tz (0, 0) hz).trans z0
  have hz1 : w.cell? ⟨b, o + 1, none⟩ = some (.slice none 0 0) := (cell_of_row w b (o + 1) cz tz (0, 0) hz).trans z1
  have hx0 : w.cell? ⟨bx, ox, none⟩ = some (.bool xn) := (cell_of_row w bx ox ca ta (0, 0) hx).trans x0
  have hx1 : w.cell? ⟨bx, ox + 1, none⟩ = some (.slice (some ⟨gx, px, none⟩) 1 cx) := (cell_of_row w bx (ox + 1) ca ta (0, 0) hx).trans x1
  have hf0 : w.frozen? ⟨b, o, none⟩ = false := by simp [World.frozen?, hz]
  have hf1 : w.frozen? ⟨b, o + 1, none⟩ = false := by simp [World.frozen?, hz]
  have hbl := (Array.getElem?_eq_some_iff.1 hz).1
  have hbxl := (Array.getElem?_eq_some_iff.1 hx).1
  have HZ := Lib.hid hz; clear hz
  have HX := Lib.hid hx; clear hx
  have HC := Lib.hid hc; clear hc
  have Z0 := Lib.hid z0; clear z0
  have Z1 := Lib.hid z1; clear z1
  clear x0 x1 hj hjs
  go_enter Tryz.func91, Tryz.ntmps91
  go_wp2_with fail
  go_region_law (first | (go_simp; go_at_call 125; refine ((HS w.drew hgx (fun i hi => HC.out i hi)).out).mono ?_; rintro e w2 ⟨g, hg, rfl, hb2, f, hr2, hf2⟩; have q1 : w2.cell? ⟨b, o + 1, none⟩ = some (.slice none 0 0) := (hb2.cell (p := ⟨b, o + 1, none⟩) hbl).trans hz1; have q2 : w2.frozen? ⟨b, o + 1, none⟩ = false := (hb2.frozen (p := ⟨b, o + 1, none⟩) hbl).trans hf1; have q3 : w2.cell? ⟨bx, ox, none⟩ = some (.bool xn) := (hb2.cell (p := ⟨bx, ox, none⟩) hbxl).trans hx0; have q4 : w2.cell? ⟨b, o, none⟩ = some (.bool zn) := (hb2.cell (p := ⟨b, o, none⟩) hbl).trans hz0; have q5 : w2.frozen? ⟨b, o, none⟩ = false := (hb2.frozen (p := ⟨b, o, none⟩) hbl).trans hf0; have hgb : g ≠ b := (by have h9 : g = w.heap.size := hg; omega); have q6 : w2.cell? ⟨bx, ox + 1, none⟩ = some (.slice (some ⟨gx, px, none⟩) 1 cx) := (hb2.cell (p := ⟨bx, ox + 1, none⟩) hbxl).trans hx1; have HG := Lib.hid hg; clear hg; have HF2 := Lib.hid hf2; clear hf2; have HR2 := Lib.hid hr2; clear hr2))
  all_goals go_wp2
  all_goals go_ret
  all_goals (
    have hg := HG.out
    have h2 : w2.heap[b]? = some (.cells cz tz (0, 0)) := (hb2.block b hbl).trans HZ.out
    exact ⟨rfl, g, f, set1 (i := o) (x := .bool xn) (set1 (i := o + 1) (x := .slice (some ⟨g, 0, none⟩) 1 1) h2), Nat.le_of_eq hg.symm, (HR2.out.far (by show g ≠ b; omega) _).far (by show g ≠ b; omega) _, HF2.out 0 (by omega), ((Chg.of_below (below_undrew hb2)).set _ _).set _ _⟩)

end Go.Proofs.YtpcleebnfgnhdaaGreatDoor

set_option linter.unusedVariables false
set_option linter.unusedSimpArgs false
namespace Go.Proofs.YtpcleebnfgnhdaaGreatDoor
open Go.RowKit
open Num

theorem ptrWordUnder : Tryz.prog.underlying 336 = some (.pointer 246) := by kernel_rfl

theorem same_self (g n c c' : Nat) (v : Value) (w : World) (h0 : 0 < n) (hn : n ≤ 2147483648) (hc : w.cell? ⟨g, 0, none⟩ = some v) :
    Calls Tryz.prog 208 #[.slice (some ⟨g, 0, none⟩) n c, .slice (some ⟨g, 0, none⟩) n c'] w fun e w' => e = .returned (.bool true) ∧ ∃ k, w' = w.drewN k := by
  obtain ⟨j, hj, _⟩ := Option.map_eq_some_iff.1 natSize
  have hp := fun W : World => run_eql_ptr_same (P := Tryz.prog) W ⟨g, 0, none⟩ ptrWordUnder hj
  have h1 : (0 : Int) < (n : Int) := by omega
  go_enter Tryz.func208, Tryz.ntmps208
  go_wp2_with fail
  go_quiet (fail)
  go_wp2
  go_ret
  exact ⟨rfl, _, rfl⟩
theorem same_nil (a b : Option Addr) (c c' : Nat) (w : World) :
    Calls Tryz.prog 208 #[.slice a 0 c, .slice b 0 c'] w fun e w' => e = .returned (.bool false) ∧ ∃ k, w' = w.drewN k := by
  go_enter Tryz.func208, Tryz.ntmps208
  go_wp2_with fail
  go_quiet (fail)
  go_wp2
  go_ret
  exact ⟨rfl, _, rfl⟩
theorem lsh0_self (g n c : Nat) (v : Value) (w : World) (h0 : 0 < n) (hn : n ≤ 2147483648) (hc : w.cell? ⟨g, 0, none⟩ = some v) :
    Calls Tryz.prog 194 #[.slice (some ⟨g, 0, none⟩) n c, .slice (some ⟨g, 0, none⟩) n c, .int .u64 0] w fun e w' => e = .returned (.slice (some ⟨g, 0, none⟩) n c) ∧ ∃ k, w' = w.drewN k := by
  have HS := Lib.hid (same_self g n c c v w h0 hn hc)
  clear hc
  go_enter Tryz.func194, Tryz.ntmps194
  go_wp2_with fail
  refine HS.out.mono ?_
  rintro e w' ⟨rfl, k, rfl⟩
  go_wp2
  go_ret
  exact ⟨rfl, _, rfl⟩
theorem lsh0_nil (w : World) :
    Calls Tryz.prog 194 #[.slice none 0 0, .slice none 0 0, .int .u64 0] w fun e w' => e = .returned (.slice none 0 0) ∧ ∃ k, w' = w.drewN k := by
  go_enter Tryz.func194, Tryz.ntmps194
  go_wp2_with fail
  refine (same_nil _ _ _ _ _).mono ?_
  rintro e w' ⟨rfl, k, rfl⟩
  go_wp2_with fail
  refine (alias_nil _ _ _ _).mono ?_
  rintro e w' ⟨rfl, k2, rfl⟩
  go_wp2_with fail
  refine (set_zero _ _ _).mono ?_
  rintro e w' ⟨rfl, rfl⟩
  go_wp2
  go_ret
  exact ⟨rfl, _, rfl⟩

theorem SetUint64_zero (b o : Nat) (cz : Array Value) (tz : Nat) (zn : Bool) (w : World)
    (hz : w.heap[b]? = some (.cells cz tz (0, 0))) (z0 : cz[o]? = some (.bool zn)) (z1 : cz[o + 1]? = some (.slice none 0 0)) :
    Calls Tryz.prog 180 #[.pointer (some ⟨b, o, none⟩), .int .u64 0] w fun e w' => e = .returned (.pointer (some ⟨b, o, none⟩)) ∧ w'.heap[b]? = some (.cells ((cz.setIfInBounds (o + 1) (.slice none 0 0)).setIfInBounds o (.bool false)) tz (0, 0)) ∧ Chg b w w' := by
  have hz0 : w.cell? ⟨b, o, none⟩ = some (.bool zn) := (cell_of_row w b o cz tz (0, 0) hz).trans z0
  have hz1 : w.cell? ⟨b, o + 1, none⟩ = some (.slice none 0 0) := (cell_of_row w b (o + 1) cz tz (0, 0) hz).trans z1
  have hf : ∀ i, w.frozen? ⟨b, i, none⟩ = false := fun i => by simp [World.frozen?, hz]
  have HZ := Lib.hid hz; clear hz
  go_enter Tryz.func180, Tryz.ntmps180
  go_wp2_with fail
  refine (setUint64_zero _).mono ?_
  rintro e w2 ⟨rfl, rfl⟩
  go_wp2
  go_ret
  exact ⟨rfl, set1 (set1 HZ.out), ((Chg.refl _ _).set _ _).set _ _⟩

/-- a shift by 0 in place: nothing turns -/
theorem IntLsh0_own (b o g n c V : Nat) (cz : Array Value) (tz : Nat) (neg : Bool) (w : World) (h0 : 0 < n) (hn : n ≤ 1048576) 
    (hc : ∀ i, i < n → w.cell? ⟨g, 0 + i, none⟩ = some (.int .u64 (wd V i)))
    (hz : w.heap[b]? = some (.cells cz tz (0, 0))) (z0 : cz[o]? = some (.bool neg)) (z1 : cz[o + 1]? = some (.slice (some ⟨g, 0, none⟩) n c)) :
    Calls Tryz.prog 182 #[.pointer (some ⟨b, o, none⟩), .pointer (some ⟨b, o, none⟩), .int .u64 0] w fun e w' => e = .returned (.pointer (some ⟨b, o, none⟩)) ∧ w'.heap[b]? = some (.cells ((cz.setIfInBounds (o + 1) (.slice (some ⟨g, 0, none⟩) n c)).setIfInBounds o (.bool neg)) tz (0, 0)) ∧ Chg b w w' := by
  have hz0 : w.cell? ⟨b, o, none⟩ = some (.bool neg) := (cell_of_row w b o cz tz (0, 0) hz).trans z0
  have hz1 : w.cell? ⟨b, o + 1, none⟩ = some (.slice (some ⟨g, 0, none⟩) n c) := (cell_of_row w b (o + 1) cz tz (0, 0) hz).trans z1
  have hbl := (Array.getElem?_eq_some_iff.1 hz).1
  have hf : ∀ i, w.frozen? ⟨b, i, none⟩ = false := fun i => by simp [World.frozen?, hz]
  have HL := Lib.hid (lsh0_self g n c _ w.drew h0 (by omega) (hc 0 h0))
  have HZ := Lib.hid hz
  clear hz hc
  go_enter Tryz.func182, Tryz.ntmps182
  go_wp2_with fail
  go_region_law (first | (go_simp; go_at_call 194; refine HL.out.mono ?_; rintro e w2 ⟨rfl, k, hw2⟩; have q0 : w2.cell? ⟨b, o, none⟩ = some (.bool neg) := (by rw [hw2]; exact hz0); have q1 : w2.cell? ⟨b, o + 1, none⟩ = some (.slice (some ⟨g, 0, none⟩) n c) := (by rw [hw2]; exact hz1); have f2 : ∀ i, w2.frozen? ⟨b, i, none⟩ = false := (fun i => by rw [hw2]; exact hf i); have HW2 := Lib.hid hw2; clear hw2))
  all_goals go_wp2
  all_goals go_ret
  all_goals (
    have hw2 := HW2.out
    have hh : w2.heap[b]? = some (.cells cz tz (0, 0)) := by rw [hw2]; exact HZ.out
    have hch : Chg b w w2 := by rw [hw2]; exact ((Chg.refl b w).drew).drewN k
    exact ⟨rfl, set1 (set1 hh), (hch.set _ _).set _ _⟩)
theorem IntLsh0_nil (b o : Nat) (cz : Array Value) (tz : Nat) (neg : Bool) (w : World)
    (hz : w.heap[b]? = some (.cells cz tz (0, 0))) (z0 : cz[o]? = some (.bool neg)) (z1 : cz[o + 1]? = some (.slice none 0 0)) :
    Calls Tryz.prog 182 #[.pointer (some ⟨b, o, none⟩), .pointer (some ⟨b, o, none⟩), .int .u64 0] w fun e w' => e = .returned (.pointer (some ⟨b, o, none⟩)) ∧ w'.heap[b]? = some (.cells ((cz.setIfInBounds (o + 1) (.slice none 0 0)).setIfInBounds o (.bool neg)) tz (0, 0)) ∧ Chg b w w' := by
  have hz0 : w.cell? ⟨b, o, none⟩ = some (.bool neg) := (cell_of_row w b o cz tz (0, 0) hz).trans z0
  have hz1 : w.cell? ⟨b, o + 1, none⟩ = some (.slice none 0 0) := (cell_of_row w b (o + 1) cz tz (0, 0) hz).trans z1
  have hf : ∀ i, w.frozen? ⟨b, i, none⟩ = false := fun i => by simp [World.frozen?, hz]
  have HL := Lib.hid (lsh0_nil w.drew)
  have HZ := Lib.hid hz
  clear hz
  go_enter Tryz.func182, Tryz.ntmps182
  go_wp2_with fail
  go_region_law (first | (go_simp; go_at_call 194; refine HL.out.mono ?_; rintro e w2 ⟨rfl, k, hw2⟩; have q0 : w2.cell? ⟨b, o, none⟩ = some (.bool neg) := (by rw [hw2]; exact hz0); have q1 : w2.cell? ⟨b, o + 1, none⟩ = some (.slice none 0 0) := (by rw [hw2]; exact hz1); have f2 : ∀ i, w2.frozen? ⟨b, i, none⟩ = false := (fun i => by rw [hw2]; exact hf i); have HW2 := Lib.hid hw2; clear hw2))
  all_goals go_wp2
  all_goals go_ret
  all_goals (
    have hw2 := HW2.out
    have hh : w2.heap[b]? = some (.cells cz tz (0, 0)) := by rw [hw2]; exact HZ.out
    have hch : Chg b w w2 := by rw [hw2]; exact ((Chg.refl b w).drew).drewN k
    exact ⟨rfl, set1 (set1 hh), (hch.set _ _).set _ _⟩)
end Go.Proofs.YtpcleebnfgnhdaaGreatDoor

set_option linter.unusedVariables false
set_option linter.unusedSimpArgs false
namespace Go.Proofs.YtpcleebnfgnhdaaGreatDoor
open Go.RowKit
open Num

theorem setWord_reuse (g c x : Nat) (v : Value) (w : World) (hx : 0 < x) (hc : 1 ≤ c) (hcell : w.cell? ⟨g, 0, none⟩ = some v) (hf : w.frozen? ⟨g, 0, none⟩ = false) :
    Calls Tryz.prog 175 #[.slice (some ⟨g, 0, none⟩) 1 c, .int .u64 (x : Int)] w fun e w' => e = .returned (.slice (some ⟨g, 0, none⟩) 1 c) ∧ w' = w.setCell ⟨g, 0, none⟩ (.int .u64 x) := by
  have hx0 : ((x : Int) == 0) = false := by simp; omega
  go_enter Tryz.func175, Tryz.ntmps175
  go_wp2_with fail
  refine (make_le _ _ _ 1 _ (by omega)).mono ?_
  rintro e w' ⟨rfl, rfl⟩
  go_wp2
  go_ret
  exact ⟨rfl, rfl⟩

theorem normRat_zero (rb gy cy : Nat) (an bn : Bool) (v : Value) (w : World) (hyr : gy ≠ rb) (hcy : 1 ≤ cy)
    (hz : w.heap[rb]? = some (.cells #[.bool an, .slice none 0 0, .bool bn, .slice (some ⟨gy, 0, none⟩) 1 cy] 307 (0, 0)))
    (hv : w.cell? ⟨gy, 0, none⟩ = some v) (hfv : w.frozen? ⟨gy, 0, none⟩ = false) :
    Calls Tryz.prog 183 #[.pointer (some ⟨rb, 0, none⟩)] w fun e w' => e = .returned (.pointer (some ⟨rb, 0, none⟩)) ∧ w' = ((w.setCell ⟨rb, 0, none⟩ (.bool false)).setCell ⟨gy, 0, none⟩ (.int .u64 1)).setCell ⟨rb, 3, none⟩ (.slice (some ⟨gy, 0, none⟩) 1 cy) := by
  have z0 := (cell_of_row w _ 0 _ _ (0, 0) hz).trans rfl
  have z1 := (cell_of_row w _ 1 _ _ (0, 0) hz).trans rfl
  have z3 := (cell_of_row w _ 3 _ _ (0, 0) hz).trans rfl
  have f0 : ∀ i, w.frozen? ⟨rb, i, none⟩ = false := fun i => by simp [World.frozen?, hz]
  have hs := set1 (i := 0) (x := .bool false) hz
  have hv2 : (w.setCell ⟨rb, 0, none⟩ (.bool false)).cell? ⟨gy, 0, none⟩ = some v := (World.cell?_of_block (w := w) (Below.heap_setCell w (⟨rb, 0, none⟩ : Addr) _ gy hyr)).trans hv
  have hf2 : (w.setCell ⟨rb, 0, none⟩ (.bool false)).frozen? ⟨gy, 0, none⟩ = false := (World.frozen?_of_block (w := w) (Below.heap_setCell w (⟨rb, 0, none⟩ : Addr) _ gy hyr)).trans hfv
  have HSW := Lib.hid (setWord_reuse gy cy 1 v _ (by omega) hcy hv2 hf2)
  have hs2 := (Below.heap_setCell (w.setCell ⟨rb, 0, none⟩ (.bool false)) (⟨gy, 0, none⟩ : Addr) (.int .u64 1) rb (fun e => hyr e.symm)).trans hs
  have k3 := (cell_of_row _ _ 3 _ _ (0, 0) hs2).trans rfl
  have kf : ((w.setCell ⟨rb, 0, none⟩ (.bool false)).setCell ⟨gy, 0, none⟩ (.int .u64 1)).frozen? ⟨rb, 3, none⟩ = false := by simp [World.frozen?, hs2]
  clear hs hs2 hv2 hf2 hv hfv
  go_enter_defers Tryz.func183, Tryz.ntmps183
  go_wp2_with fail
  refine HSW.out.mono ?_
  rintro e w' ⟨rfl, rfl⟩
  go_wp2
  exact ⟨_, results_tmp rfl _ _ _, rfl, rfl⟩

theorem and_one (x : Nat) (hx : x < 18446744073709551616) : bits .and .u64 (x : Int) 1 = ((x % 2 : Nat) : Int) := by
  have := bits_and_u64_nat x 1 hx (by decide)
  rw [show x &&& 1 = x % 2 from Nat.and_two_pow_sub_one_eq_mod x 1] at this
  exact this
/-- a Rat at rb: its numerator N, with a sign, its denominator D, not 0 -/
def RatAt (w : World) (rb : Nat) (neg : Bool) (N D : Nat) : Prop :=
  ∃ sx sy n m, w.heap[rb]? = some (.cells #[.bool neg, sx, .bool false, sy] 307 (0, 0)) ∧ Words w sx n N ∧ n ≤ 1048576 ∧ Words w sy m D ∧ 0 < m ∧ m ≤ 39
theorem RatAt.below {w w' : World} {rb : Nat} {neg : Bool} {N D : Nat} (h : RatAt w rb neg N D) (hb : Below w.heap.size w w') : RatAt w' rb neg N D := by
  obtain ⟨sx, sy, n, m, h1, h2, h3, h4, h5, h6⟩ := h
  exact ⟨sx, sy, n, m, (hb.block _ (Array.getElem?_eq_some_iff.1 h1).1).trans h1, h2.below hb, h3, h4.below hb, h5, h6⟩

theorem words_row {w : World} {g c n V : Nat} {f : Nat → Value} (hr : Row w g 246 c f) (hf : ∀ i, i < n → f i = .int .u64 (wd V i)) (hN : Nw n V) (h0 : 0 < n) (hnc : n ≤ c) (hn : n ≤ 16777216) : Words w (.slice (some ⟨g, 0, none⟩) n c) n V :=
  ⟨hN, hn, .inr ⟨h0, g, 0, c, rfl, hr.lt, fun i hi => by rw [Nat.zero_add, hr.cell (by omega), hf i hi]⟩⟩
theorem nw_word {V : Nat} (h0 : 0 < V) (hV : V < 18446744073709551616) : Nw 1 V := by
  refine ⟨?_, fun _ => by simp; omega⟩
  rw [show (2 : Nat) ^ (64 * 1) = 18446744073709551616 by decide]; exact hV
theorem nw_pow {m k : Nat} (h : Nw m (2 ^ k)) (hk : k ≤ 1074) : m ≤ 17 := by
  rcases Nat.lt_or_ge 17 m with h1 | h1
  · exfalso
    have h2 := h.2 (by omega)
    have h3 := (Nat.pow_le_pow_iff_right (by omega : 1 < 2)).1 h2
    omega
  · exact h1

/-- what the loop of SetFloat64 leaves: the mantissa and the shift -/
def LoopOut (B mn : Nat) (sn : Int) : Prop :=
  (∃ k t : Nat, 0 < k ∧ sn = k ∧ mn % 2 = 1 ∧ mn * 2 ^ t = fman B ∧ k + t = (-fplace B).toNat ∧ ¬ 0 ≤ fplace B) ∨ (∃ t : Nat, sn = 0 ∧ mn * 2 ^ t = fman B ∧ t = (-fplace B).toNat ∧ fplace B ≤ 0) ∨ (∃ k : Nat, 0 < k ∧ sn = -(k : Int) ∧ mn = fman B ∧ fplace B = (k : Int))

/-- what SetFloat64 leaves -/
def FloatRat (rb B : Nat) (w : World) (e : Ending) (w' : World) : Prop :=
  e = .returned (.pointer (some ⟨rb, 0, none⟩)) ∧ (∃ neg N D, RatAt w' rb neg N D ∧ (neg = true → 0 < N) ∧ (∀ x : Int, icmp (x * (D : Int)) (sI neg N) = fcmp x B)) ∧ Chg rb w w'

set_option maxRecDepth 100000 in
set_option maxHeartbeats 1000000 in
theorem SetFloat64_any (rb B : Nat) (hB : B < 18446744073709551616) (hf : fexp B ≠ 2047) (w : World)
    (hz : w.heap[rb]? = some (.cells #[.bool false, .slice none 0 0, .bool false, .slice none 0 0] 307 (0, 0))) :
    Calls Tryz.prog 174 #[.pointer (some ⟨rb, 0, none⟩), .float .f64 B] w (FloatRat rb B w) := by
  have hx := fexp_lt B
  have hM := fman_lt B
  have h1 : bits .and .u64 ((B : Int) / 4503599627370496) 2047 = (fexp B : Int) := by
    have := and_2047 (B / 4503599627370496) (by omega)
    rw [Int.natCast_ediv] at this
    exact this
  have h2 : bits .and .u64 (B : Int) 4503599627370495 = (ffrac B : Int) := and_frac B hB
  have htb := run_tobits B
  have e1 : ((fexp B : Int) == 2047) = false := by rw [beq_eq_false_iff_ne]; omega
  have hxb : (fexp B : Int) ≤ 2047 := by omega
  have HM := Lib.hid hM
  have HZ := Lib.hid hz
  have lr := (Array.getElem?_eq_some_iff.1 hz).1
  have hord : (FloatKind.f64.format.order B 0 == some .lt) = (fneg B && decide (0 < fman B)) := by
    rcases Nat.eq_zero_or_pos (fman B) with h | h
    · have h9 : (FloatKind.f64.format.order B 0 == some .lt) = false := lt_zero0 B hB hf h
      rw [h9, h]; simp
    · have h9 : (FloatKind.f64.format.order B 0 == some .lt) = fneg B := lt_zero B hB hf h
      rw [h9]; simp [h]
  obtain ⟨fm, hfm⟩ : ∃ fm, fm = fman B := ⟨_, rfl⟩
  obtain ⟨sh, hsh⟩ : ∃ sh : Int, sh = -fplace B := ⟨_, rfl⟩
  have HFM := Lib.hid hfm; have HSH := Lib.hid hsh
  have hpg := fplace_ge B
  have hpl : fplace B ≤ 971 := by unfold fplace; split <;> omega
  have hfm64 : fm < 18446744073709551616 := by rw [hfm]; omega
  have hstart : fexp B = 0 ∧ (ffrac B : Int) = (fm : Int) ∧ sh = 1074 ∨ fexp B ≠ 0 ∧ bits .or .u64 (ffrac B : Int) 4503599627370496 = (fm : Int) ∧ (52 : Int) - ((fexp B : Int) - 1023) = sh := by
    by_cases h0 : fexp B = 0
    · left
      refine ⟨h0, ?_, ?_⟩
      · rw [hfm]; unfold fman; rw [if_pos h0]
      · rw [hsh]; unfold fplace; rw [if_pos h0]; rfl
    · right
      refine ⟨h0, ?_, ?_⟩
      · rw [hfm]; unfold fman; rw [if_neg h0]; exact or_hidden _ (ffrac_lt B)
      · rw [hsh]; unfold fplace; rw [if_neg h0]; omega
  have hsh1 : -971 ≤ sh ∧ sh ≤ 1074 := by omega
  clear hM hfm hsh hz hpg hpl hx
  have hlo : -971 ≤ sh := hsh1.1
  have hhi : sh ≤ 1074 := hsh1.2
  obtain ⟨ng, hng⟩ : ∃ ng, ng = (fneg B && decide (0 < fman B)) := ⟨_, rfl⟩
  rw [← hng] at hord
  have HNG := Lib.hid hng
  clear hng
  rcases hstart with ⟨g1, g2, g3⟩ | ⟨g1, g2, g3⟩
  focus
    have e2 : ((fexp B : Int) == 0) = true := by rw [g1]; rfl
    have e3 : (fexp B : Int) = 0 := by omega
    go_enter Tryz.func174, Tryz.ntmps174
    go_upto_block 1 with fail
    rw [← g3]
    clear h1 h2 htb e1 hxb g1 g2 g3 e2 e3
  rotate_left
  focus
    have e2 : ((fexp B : Int) == 0) = false := by rw [beq_eq_false_iff_ne]; omega
    go_enter Tryz.func174, Tryz.ntmps174
    go_upto_block 1 with fail
    clear h1 h2 htb e1 hxb g1 g2 g3 e2
  all_goals (
    go_cut [6, 8] from 9 to 40 (fun m s wx => ∃ mn : Nat, ∃ sn : Int, m = .int .u64 mn ∧ s = .int .i64 sn ∧ mn ≤ fm ∧ LoopOut B mn sn ∧ wx = w)
    case first =>
      rcases (show 0 < sh ∨ sh ≤ 0 by omega) with hp | hp
      · obtain ⟨e0, he0⟩ := Int.eq_ofNat_of_zero_le (Int.le_of_lt hp)
        subst he0
        go_wp2_with fail
        go_loop [6, 8] (fun m s => ∃ mn k t : Nat, m = .int .u64 mn ∧ s = .int .i64 k ∧ mn ≤ fm ∧ k + t = e0 ∧ Hid (mn * 2 ^ t = fm)) (fun _ s => (intOf s).toNat)
        case atStart => exact ⟨fm, e0, 0, rfl, rfl, Nat.le_refl _, rfl, by show _ = _; simp⟩
        case round =>
          obtain ⟨mn, k, t, rfl, rfl, hmn, hkt, HE⟩ := hrel
          have ha1 := and_one mn (by omega)
          have hout1 : mn % 2 = 1 → LoopOut B mn k := fun ho => by
            have e1 := HFM.out; have e2 := HSH.out; have e3 := HE.out
            by_cases hk : 0 < k
            · exact .inl ⟨k, t, hk, rfl, ho, by rw [← e1]; exact e3, by omega, by omega⟩
            · exact .inr (.inl ⟨t, by omega, by rw [← e1]; exact e3, by omega, by omega⟩)
          have hout2 : k = 0 → LoopOut B mn k := fun hk => by
            have e1 := HFM.out; have e2 := HSH.out; have e3 := HE.out
            exact .inr (.inl ⟨t, by omega, by rw [← e1]; exact e3, by omega, by omega⟩)
          have HO := Lib.hid (And.intro hout1 hout2)
          clear hout1 hout2
          rcases Nat.mod_two_eq_zero_or_one mn with ho | ho
          · have ha2 : ((mn % 2 : Nat) : Int) = 0 := by omega
            rw [ha2] at ha1
            have HOD := Lib.hid ho
            clear ho ha2
            by_cases hk : 0 < k
            · go_wp2
              go_round
              case rel =>
                refine ⟨mn / 2, k - 1, t + 1, by simp, by congr 1; omega, by omega, by omega, ?_⟩
                show _ = _
                have h3 := HE.out
                have h4 := HOD.out
                rw [Nat.pow_succ, Nat.mul_comm (2 ^ t) 2, ← Nat.mul_assoc, Nat.div_mul_cancel (Nat.dvd_of_mod_eq_zero h4)]
                exact h3
              case measure => simp [intOf]; omega
            · have hk0 : k = 0 := by omega
              subst hk0
              go_wp2_with fail
              go_meet
              exact ⟨mn, _, rfl, rfl, hmn, HO.out.2 (by first | rfl | trivial), rfl⟩
          · have ha2 : ((mn % 2 : Nat) : Int) = 1 := by omega
            rw [ha2] at ha1
            have HOD := Lib.hid ho
            clear ho ha2
            go_wp2_with fail
            go_meet
            exact ⟨mn, _, rfl, rfl, hmn, HO.out.1 HOD.out, rfl⟩
      · have ha1 := and_one fm hfm64
        obtain ⟨x, hxx⟩ : ∃ x, bits .and .u64 (fm : Int) 1 = x := ⟨_, rfl⟩
        have hfin : LoopOut B fm sh := by
          have e1 := HFM.out; have e2 := HSH.out
          rcases (show sh < 0 ∨ 0 ≤ sh by omega) with h | h
          · obtain ⟨k, hk⟩ := Int.eq_ofNat_of_zero_le (show 0 ≤ -sh by omega)
            exact .inr (.inr ⟨k, by omega, by omega, e1, by omega⟩)
          · exact .inr (.inl ⟨0, by omega, by simp [e1], by omega, by omega⟩)
        have HFIN := Lib.hid hfin
        have hp2 : ¬ (0 < sh) := by omega
        clear ha1 hfin hp
        go_wp2_with fail
        refine wp_loop_rounds 1 ?_
        rw [rounds_succ]
        by_cases hx0 : (x == 0) = true
        all_goals
          go_wp2_with fail
          go_meet
          exact ⟨fm, sh, rfl, rfl, Nat.le_refl _, HFIN.out, rfl⟩
    case rest =>
      obtain ⟨mn, sn, rfl, rfl, hmn, hlo, rfl⟩ := hcut
      rcases Nat.eq_zero_or_pos mn with hm0 | hm0
      · subst hm0
        have hff : fman B = 0 ∧ sn = 0 := by
          rcases hlo with ⟨k, t, h1, h2, h3, h4, h5, h6⟩ | ⟨t, h1, h2, _⟩ | ⟨k, h1, h2, h3, h4⟩
          · omega
          · rw [Nat.zero_mul] at h2; exact ⟨h2.symm, h1⟩
          · have := fplace_hi (B := B) (by omega); omega
        obtain ⟨hf0, rfl⟩ := hff
        have hng : ng = false := by rw [HNG.out, hf0]; simp
        subst hng
        have HSU := Lib.hid (SetUint64_zero rb 0 _ 307 false wc HZ.out rfl rfl)
        have HF0 := Lib.hid hf0
        clear hlo hf0
        go_wp2_with fail
        refine HSU.out.mono ?_
        rintro e w2 ⟨rfl, hh2, hch2⟩
        have hh2' : w2.heap[rb]? = some (.cells #[.bool false, .slice none 0 0, .bool false, .slice none 0 0] 307 (0, 0)) := hh2
        have y0 := (cell_of_row w2 _ 0 _ _ (0, 0) hh2').trans rfl
        have g2 : ∀ i, w2.frozen? ⟨rb, i, none⟩ = false := fun i => by simp [World.frozen?, hh2']
        have HH2 := Lib.hid hh2'; have HCH2 := Lib.hid hch2
        clear hh2 hh2' hch2
        go_wp2_with fail
        obtain ⟨w3, hw3⟩ : ∃ w3, w3 = w2.setCell ⟨rb, 0, none⟩ (.bool false) := ⟨_, rfl⟩
        rw [← hw3]
        have hh3 : w3.heap[rb]? = some (.cells #[.bool false, .slice none 0 0, .bool false, .slice none 0 0] 307 (0, 0)) := by rw [hw3]; exact set1 (i := 0) (x := .bool false) HH2.out
        have hch3 : Chg rb wc w3 := by rw [hw3]; exact HCH2.out.set _ _
        obtain ⟨O1, hO1⟩ : ∃ O1, O1 = Obj.cells #[.int .u64 1] 246 := ⟨_, rfl⟩
        obtain ⟨O2, hO2⟩ : ∃ O2, O2 = Obj.cells #[.bool false, .slice (some ⟨w3.heap.size, 0, none⟩) 1 1] 212 := ⟨_, rfl⟩
        have hI := intOne_any w3.drew
        rw [show w3.drew.heap.size = w3.heap.size from rfl, ← hO1, ← hO2] at hI
        obtain ⟨w4, hw4⟩ : ∃ w4, w4 = (w3.drew.alloc O1).alloc O2 := ⟨_, rfl⟩
        rw [← hw4] at hI
        have hb34 : Below w3.heap.size w3 w4 := by rw [hw4]; exact below_undrew ((((Below.refl w3.drew.heap.size w3.drew).alloc (Nat.le_refl _) _).alloc (by simp) _))
        have hI4 : w4.heap[w3.heap.size + 1]? = some (.cells #[.bool false, .slice (some ⟨w3.heap.size, 0, none⟩) 1 1] 212 (0, 0)) := by rw [hw4, hO2]; exact heap2_1 w3.drew _ _
        have hk4 : w4.cell? ⟨w3.heap.size, 0 + 0, none⟩ = some (.int .u64 1) := by rw [hw4, hO1]; exact (cell_of_row _ _ 0 _ _ (0, 0) (heap2_0 w3.drew _ _)).trans rfl
        have hs4 : w4.heap.size = w3.heap.size + 2 := by rw [hw4]; simp
        have hh4 := (hb34.block rb (by have := hch3.size; omega)).trans hh3
        have HSET := Lib.hid (Int_Set_one rb 2 (w3.heap.size + 1) 0 w3.heap.size 0 1 1 _ _ _ _ false false w4 (by omega) hh4 hI4 rfl rfl rfl rfl (by have := hch3.size; omega) (fun i hi => by
          obtain rfl : i = 0 := by omega
          exact hk4))
        have HI := Lib.hid hI
        have HB34 := Lib.hid hb34; have HS4 := Lib.hid hs4; have HCH3 := Lib.hid hch3; have HH4 := Lib.hid hh4
        clear hw3 hh3 hch3 hO1 hO2 hI hw4 hb34 hI4 hk4 hs4 hh4 y0 g2
        go_region_law (first | (go_simp; go_at_call 181; refine HI.out.mono ?_; rintro e w4' ⟨rfl, hww⟩; subst hww) | (go_simp; go_at_call 91; refine HSET.out.mono ?_; rintro e w5 ⟨rfl, g5, f5, hh5, hg5, hr5, hf5, hch5⟩; have HCH5 := Lib.hid hch5; have HH5 := Lib.hid hh5; have HG5 := Lib.hid hg5; have HR5 := Lib.hid hr5; have HF5 := Lib.hid hf5; clear hch5 hh5 hg5 hr5 hf5))
        all_goals (
          have hh5 : w5.heap[rb]? = some (.cells #[.bool false, .slice none 0 0, .bool false, .slice (some ⟨g5, 0, none⟩) 1 1] 307 (0, 0)) := HH5.out
          have hs4 := HS4.out
          have hg5 := HG5.out
          have hch35 : Chg rb wc w5 := by
            have c3 := HCH3.out
            have b := HB34.out
            have c5 := HCH5.out
            exact ⟨c5.os.trans (b.os.trans c3.os), c5.tape.trans (b.tape.trans c3.tape), c5.output.trans (b.output.trans c3.output), Nat.le_trans c3.size (Nat.le_trans b.size c5.size), fun i hi hg => (c5.block i (by have := c3.size; omega) hg).trans ((b.block i (by have := c3.size; omega)).trans (c3.block i hi hg))⟩
          have hgr : g5 ≠ rb ∧ wc.heap.size ≤ g5 := by have := HCH3.out.size; exact ⟨by omega, by omega⟩
          have HGR := Lib.hid hgr
          have HL := Lib.hid (IntLsh0_nil rb 0 _ _ false w5.drew hh5 rfl rfl)
          have HCH35 := Lib.hid hch35
          clear hh5 hch35 hs4 hg5 hgr
          go_wp2_with fail
          go_region_law (first | (go_simp; go_at_call 182; refine HL.out.mono ?_; rintro e w6 ⟨rfl, hh6, hch6⟩; have HCH6 := Lib.hid hch6; have HH6 := Lib.hid hh6; clear hch6 hh6))
          all_goals go_wp2_with fail
          all_goals (
            have hh6 : w6.heap[rb]? = some (.cells #[.bool false, .slice none 0 0, .bool false, .slice (some ⟨g5, 0, none⟩) 1 1] 307 (0, 0)) := HH6.out
            have hr6 : Row w6 g5 246 1 f5 := HR5.out.keep (HCH6.out.block _ (by show g5 < w5.heap.size; exact HR5.out.lt) HGR.out.1)
            have hch6 : Chg rb wc w6 := ⟨HCH6.out.os.trans HCH35.out.os, HCH6.out.tape.trans HCH35.out.tape, HCH6.out.output.trans HCH35.out.output, Nat.le_trans HCH35.out.size HCH6.out.size, fun i hi hg => (HCH6.out.block i (Nat.lt_of_lt_of_le hi HCH35.out.size) hg).trans (HCH35.out.block i hi hg)⟩
            have HNO := Lib.hid (normRat_zero rb g5 1 false false (f5 0) w6 HGR.out.1 (by omega) hh6 (hr6.cell (by omega)) (hr6.frozen 0))
            have HX := Lib.hid (And.intro hr6 (And.intro hh6 hch6))
            clear hr6 hh6 hch6
            go_wp2_with fail
            refine HNO.out.mono ?_
            rintro e w7 ⟨rfl, hw7⟩
            have HW7 := Lib.hid hw7
            clear hw7
            go_wp2
            go_ret
            obtain ⟨x1, x2, x3⟩ := HX.out
            have hw7 := HW7.out
            have hgr := HGR.out
            have hr7 : Row w7 g5 246 1 (fun j => if j = 0 then .int .u64 1 else f5 j) := by
              rw [hw7]
              exact ((x1.far (by show g5 ≠ rb; omega) _).set 0 _).far (by show g5 ≠ rb; omega) _
            have hh7 : w7.heap[rb]? = some (.cells #[.bool false, .slice none 0 0, .bool false, .slice (some ⟨g5, 0, none⟩) 1 1] 307 (0, 0)) := by
              rw [hw7]
              exact set1 (i := 3) (x := .slice (some ⟨g5, 0, none⟩) 1 1) ((Below.heap_setCell _ (⟨g5, 0, none⟩ : Addr) (.int .u64 1) rb (fun e => hgr.1 e.symm)).trans (set1 (i := 0) (x := .bool false) x2))
            have hch7 : Chg rb wc w7 := by
              rw [hw7]
              refine ⟨x3.os, x3.tape, x3.output, by have := x3.size; simpa [World.setCell] using this, fun i hi hg => ?_⟩
              rw [Below.heap_setCell _ _ _ _ hg, Below.heap_setCell _ _ _ _ (show i ≠ g5 by omega), Below.heap_setCell _ _ _ _ hg]
              exact x3.block i hi hg
            refine ⟨rfl, ⟨false, 0, 1, ⟨_, _, 0, 1, hh7, ⟨⟨by simp, fun h => absurd h (by omega)⟩, by omega, .inl ⟨rfl, none, 0, rfl⟩⟩, by omega, words_row hr7 (fun i hi => by
              obtain rfl : i = 0 := by omega
              rfl) (nw_word (by omega) (by omega)) (by omega) (by omega) (by omega), by omega, by omega⟩, fun h => (by cases h), fun x => ?_⟩, hch7⟩
            unfold fcmp
            rw [HF0.out, Nat.zero_mul]
            have e1 : sI (fneg B) 0 = 0 := by cases fneg B <;> simp [sI]
            have e2 : sI false 0 = 0 := by simp [sI]
            rw [e1, e2]
            have h9 := icmp_mul x 0 (2 ^ (-fplace B).toNat) (Nat.two_pow_pos _)
            rw [Int.zero_mul] at h9
            rw [h9]; simp))
      · have hf0 : 0 < fman B := by have := HFM.out; omega
        have hmn53 : mn < 9007199254740992 := by have := HM.out; have := HFM.out; omega
        have HSU := Lib.hid (SetUint64_own rb 0 mn _ 307 false wc hm0 (by omega) HZ.out rfl rfl)
        have HLO := Lib.hid hlo
        have hsb : -1074 ≤ sn ∧ sn ≤ 1074 := by
          have hpg := fplace_ge B
          have hpl : fplace B ≤ 971 := by have := fexp_lt B; unfold fplace; split <;> omega
          rcases hlo with ⟨k, t, h1, h2, h3, h4, h5, h6⟩ | ⟨t, h1, _⟩ | ⟨k, h1, h2, h3, h4⟩ <;> omega
        clear hlo
        go_wp2_with fail
        refine HSU.out.mono ?_
        rintro e w2 ⟨rfl, f2, hh2, hch2, hrow2, hf2⟩
        have hh2' : w2.heap[rb]? = some (.cells #[.bool false, .slice (some ⟨wc.heap.size, 0, none⟩) 1 1, .bool false, .slice none 0 0] 307 (0, 0)) := hh2
        have y0 := (cell_of_row w2 _ 0 _ _ (0, 0) hh2').trans rfl
        have g2 : ∀ i, w2.frozen? ⟨rb, i, none⟩ = false := fun i => by simp [World.frozen?, hh2']
        have HH2 := Lib.hid hh2'; have HCH2 := Lib.hid hch2; have HROW2 := Lib.hid hrow2; have HF2 := Lib.hid hf2
        clear hh2 hh2' hch2 hrow2 hf2
        go_wp2_with fail
        obtain ⟨w3, hw3⟩ : ∃ w3, w3 = w2.setCell ⟨rb, 0, none⟩ (.bool ng) := ⟨_, rfl⟩
        rw [← hw3]
        have hh3 : w3.heap[rb]? = some (.cells #[.bool ng, .slice (some ⟨wc.heap.size, 0, none⟩) 1 1, .bool false, .slice none 0 0] 307 (0, 0)) := by rw [hw3]; exact set1 (i := 0) (x := .bool ng) HH2.out
        have hch3 : Chg rb wc w3 := by rw [hw3]; exact HCH2.out.set _ _
        have hrow3 : Row w3 wc.heap.size 246 1 f2 := by rw [hw3]; exact HROW2.out.far (by show wc.heap.size ≠ rb; omega) _
        have hs3 : wc.heap.size < w3.heap.size := hrow3.lt
        obtain ⟨O1, hO1⟩ : ∃ O1, O1 = Obj.cells #[.int .u64 1] 246 := ⟨_, rfl⟩
        obtain ⟨O2, hO2⟩ : ∃ O2, O2 = Obj.cells #[.bool false, .slice (some ⟨w3.heap.size, 0, none⟩) 1 1] 212 := ⟨_, rfl⟩
        have hI := intOne_any w3.drew
        rw [show w3.drew.heap.size = w3.heap.size from rfl, ← hO1, ← hO2] at hI
        obtain ⟨w4, hw4⟩ : ∃ w4, w4 = (w3.drew.alloc O1).alloc O2 := ⟨_, rfl⟩
        rw [← hw4] at hI
        have hb34 : Below w3.heap.size w3 w4 := by rw [hw4]; exact below_undrew ((((Below.refl w3.drew.heap.size w3.drew).alloc (Nat.le_refl _) _).alloc (by simp) _))
        have hI4 : w4.heap[w3.heap.size + 1]? = some (.cells #[.bool false, .slice (some ⟨w3.heap.size, 0, none⟩) 1 1] 212 (0, 0)) := by rw [hw4, hO2]; exact heap2_1 w3.drew _ _
        have hk4 : w4.cell? ⟨w3.heap.size, 0 + 0, none⟩ = some (.int .u64 1) := by rw [hw4, hO1]; exact (cell_of_row _ _ 0 _ _ (0, 0) (heap2_0 w3.drew _ _)).trans rfl
        have hs4 : w4.heap.size = w3.heap.size + 2 := by rw [hw4]; simp
        have hh4 := (hb34.block rb (by have := hch3.size; omega)).trans hh3
        have HSET := Lib.hid (Int_Set_one rb 2 (w3.heap.size + 1) 0 w3.heap.size 0 1 1 _ _ _ _ false false w4 (by omega) hh4 hI4 rfl rfl rfl rfl (by have := hch3.size; omega) (fun i hi => by
          obtain rfl : i = 0 := by omega
          exact hk4))
        have HI := Lib.hid hI
        have HB34 := Lib.hid hb34; have HS4 := Lib.hid hs4; have HCH3 := Lib.hid hch3; have HROW3 := Lib.hid hrow3; have HH4 := Lib.hid hh4; have HS3 := Lib.hid hs3
        clear hw3 hh3 hch3 hrow3 hO1 hO2 hI hw4 hb34 hI4 hk4 hs4 hh4 y0 g2 hs3
        go_region_law (first | (go_simp; go_at_call 181; refine HI.out.mono ?_; rintro e w4' ⟨rfl, hww⟩; subst hww) | (go_simp; go_at_call 91; refine HSET.out.mono ?_; rintro e w5 ⟨rfl, g5, f5, hh5, hg5, hr5, hf5, hch5⟩; have HCH5 := Lib.hid hch5; have HH5 := Lib.hid hh5; have HG5 := Lib.hid hg5; have HR5 := Lib.hid hr5; have HF5 := Lib.hid hf5; clear hch5 hh5 hg5 hr5 hf5))
        all_goals (
          have hh5 : w5.heap[rb]? = some (.cells #[.bool ng, .slice (some ⟨wc.heap.size, 0, none⟩) 1 1, .bool false, .slice (some ⟨g5, 0, none⟩) 1 1] 307 (0, 0)) := HH5.out
          have hs3 := HS3.out
          have hs4 := HS4.out
          have hg5 := HG5.out
          have hrow5 : Row w5 wc.heap.size 246 1 f2 := (HROW3.out.below HB34.out hs3).chg HCH5.out (by omega)
          have hch35 : Chg rb wc w5 := by
            have c3 := HCH3.out
            have b := HB34.out
            have c5 := HCH5.out
            exact ⟨c5.os.trans (b.os.trans c3.os), c5.tape.trans (b.tape.trans c3.tape), c5.output.trans (b.output.trans c3.output), Nat.le_trans c3.size (Nat.le_trans b.size c5.size), fun i hi hg => (c5.block i (by have := c3.size; omega) hg).trans ((b.block i (by have := c3.size; omega)).trans (c3.block i hi hg))⟩
          have hwd : wd mn 0 = mn := by unfold wd; simp; omega
          have hwd1 : wd 1 0 = 1 := rfl
          have HH5' := Lib.hid hh5; have HROW5 := Lib.hid hrow5; have HCH35 := Lib.hid hch35; have HWD := Lib.hid hwd
          have HGR := Lib.hid (show wc.heap.size ≠ rb ∧ g5 ≠ rb ∧ g5 < w5.heap.size ∧ wc.heap.size ≤ g5 from ⟨by omega, by omega, HR5.out.lt, by omega⟩)
          clear hh5 hrow5 hch35 hwd hwd1 hs3 hs4 hg5
          rcases HLO.out with ⟨k, t, k1, rfl, k3, k4, k5, k6⟩ | ⟨t, rfl, k4, k5, k6⟩ | ⟨k, k1, rfl, k4, k5⟩
          · have hL := IntLsh_own rb 2 g5 1 1 1 k _ _ false w5.drew (by omega) (by omega) (by omega) k1 (by omega) (by omega) (by decide) HGR.out.2.2.1 (fun i hi => by
              obtain rfl : i = 0 := by omega
              show w5.cell? _ = _
              rw [Nat.add_zero, HR5.out.cell (by omega), HF5.out]) HH5'.out rfl rfl
            rw [Nat.one_mul] at hL
            have HL := Lib.hid hL
            have hwk2 : IntKind.u64.wrap (k : Int) = (k : Int) := by simp only [IntKind.wrap_u64]; omega
            have hpos : (0 : Int) < (k : Int) := by omega
            have HK := Lib.hid (And.intro k3 (And.intro k4 (And.intro k5 k6)))
            clear hL k3 k4 k5 k6
            go_wp2_with fail
            go_region_law (first | (go_simp; go_at_call 182; refine HL.out.mono ?_; rintro e w6 ⟨rfl, m, hN, hm, s6, hnew6, hch6, hh6⟩; have HN := Lib.hid hN; have HNEW6 := Lib.hid hnew6; have HCH6 := Lib.hid hch6; have HH6 := Lib.hid hh6; clear hN hnew6 hch6 hh6))
            all_goals go_wp2_with fail
            all_goals (
              rcases HNEW6.out with ⟨h, h', _⟩ | ⟨hmm0, hVm, g6, c6, f6, rfl, hg6, hc6, hc6', hr6, hf6⟩
              · exact absurd h' (Nat.ne_of_gt (Nat.two_pow_pos k))
              have hh6 : w6.heap[rb]? = some (.cells #[.bool ng, .slice (some ⟨wc.heap.size, 0, none⟩) 1 1, .bool false, .slice (some ⟨g6, 0, none⟩) m c6] 307 (0, 0)) := HH6.out
              have hm17 := nw_pow HN.out (by omega)
              have hg6' : w5.heap.size ≤ g6 := hg6
              have hrow6 : Row w6 wc.heap.size 246 1 f2 := HROW5.out.keep (HCH6.out.block _ (by show wc.heap.size < w5.heap.size; exact HROW5.out.lt) HGR.out.1)
              have hch6 : Chg rb wc w6 := ⟨HCH6.out.os.trans HCH35.out.os, HCH6.out.tape.trans HCH35.out.tape, HCH6.out.output.trans HCH35.out.output, Nat.le_trans HCH35.out.size HCH6.out.size, fun i hi hg => (HCH6.out.block i (Nat.lt_of_lt_of_le hi HCH35.out.size) hg).trans (HCH35.out.block i hi hg)⟩
              have hfA : ∀ i, i < 1 → f2 i = .int .u64 (wd mn i) := fun i hi => by
                obtain rfl : i = 0 := by omega
                rw [HF2.out, HWD.out]
              have hrbl : rb < w5.heap.size := Nat.lt_of_lt_of_le lr HCH35.out.size
              have HNO := Lib.hid (norm_word rb wc.heap.size 1 g6 c6 1 m mn (2 ^ k) ng false w6 (by omega) hmm0 (by omega) (by omega) (.inl rfl) (nw_word hm0 (by omega)) HN.out (odd_coprime HK.out.1) hrow6.lt hr6.lt HGR.out.1 (by omega) hh6 (fun i hi => by rw [Nat.zero_add, hrow6.cell (by omega), hfA i hi]) (fun i hi => by rw [Nat.zero_add, hr6.cell (by omega), hf6 i hi]))
              have HX := Lib.hid (And.intro hrow6 (And.intro hfA (And.intro hr6 hf6)))
              have HCC := Lib.hid hch6
              have HG6 := Lib.hid (show g6 ≠ rb by omega)
              clear hVm hg6 hr6 hf6 hh6 hg6' hrow6 hch6 hfA hrbl
              go_wp2_with fail
              refine HNO.out.mono ?_
              rintro e w7 ⟨rfl, hh7, hch7⟩
              have HH7 := Lib.hid hh7; have HCH7 := Lib.hid hch7
              clear hh7 hch7
              go_wp2
              go_ret
              obtain ⟨x1, x2, x3, x4⟩ := HX.out
              obtain ⟨_, k4, k5, k6⟩ := HK.out
              refine ⟨rfl, ⟨ng, mn, 2 ^ k, ⟨_, _, 1, m, HH7.out, words_row (x1.chg HCH7.out HGR.out.1) x2 (nw_word hm0 (by omega)) (by omega) (by omega) (by omega), by omega, words_row (x3.chg HCH7.out HG6.out) x4 HN.out hmm0 hc6 (by omega), hmm0, by omega⟩, fun _ => hm0, fun x => ?_⟩, HCC.out.trans HCH7.out⟩
              have hngf : ng = fneg B := by rw [HNG.out]; simp [hf0]
              rw [hngf]
              exact fcmp_frac x B mn k t k4 (by omega) k5)
          · have HL := Lib.hid (IntLsh0_own rb 0 wc.heap.size 1 1 mn _ _ ng w5.drew (by omega) (by omega) (fun i hi => by
              obtain rfl : i = 0 := by omega
              show w5.cell? _ = _
              rw [Nat.add_zero, HROW5.out.cell (by omega), HF2.out, HWD.out]) HH5'.out rfl rfl)
            have HK := Lib.hid (And.intro k4 (And.intro k5 k6))
            clear k4 k5 k6
            go_wp2_with fail
            go_region_law (first | (go_simp; go_at_call 182; refine HL.out.mono ?_; rintro e w6 ⟨rfl, hh6, hch6⟩; have HCH6 := Lib.hid hch6; have HH6 := Lib.hid hh6; clear hch6 hh6))
            all_goals go_wp2_with fail
            all_goals (
              have hh6 : w6.heap[rb]? = some (.cells #[.bool ng, .slice (some ⟨wc.heap.size, 0, none⟩) 1 1, .bool false, .slice (some ⟨g5, 0, none⟩) 1 1] 307 (0, 0)) := HH6.out
              have hrow6 : Row w6 wc.heap.size 246 1 f2 := HROW5.out.keep (HCH6.out.block _ (by show wc.heap.size < w5.heap.size; exact HROW5.out.lt) HGR.out.1)
              have hr6 : Row w6 g5 246 1 f5 := HR5.out.keep (HCH6.out.block _ (by show g5 < w5.heap.size; exact HR5.out.lt) HGR.out.2.1)
              have hch6 : Chg rb wc w6 := ⟨HCH6.out.os.trans HCH35.out.os, HCH6.out.tape.trans HCH35.out.tape, HCH6.out.output.trans HCH35.out.output, Nat.le_trans HCH35.out.size HCH6.out.size, fun i hi hg => (HCH6.out.block i (Nat.lt_of_lt_of_le hi HCH35.out.size) hg).trans (HCH35.out.block i hi hg)⟩
              have hfA : ∀ i, i < 1 → f2 i = .int .u64 (wd mn i) := fun i hi => by
                obtain rfl : i = 0 := by omega
                rw [HF2.out, HWD.out]
              have hf6 : ∀ i, i < 1 → f5 i = .int .u64 (wd 1 i) := fun i hi => by
                obtain rfl : i = 0 := by omega
                exact HF5.out
              have HNO := Lib.hid (norm_word rb wc.heap.size 1 g5 1 1 1 mn 1 ng false w6 (by omega) (by omega) (by omega) (by omega) (.inl rfl) (nw_word hm0 (by omega)) (nw_word (by omega) (by omega)) (Nat.gcd_one_right mn) hrow6.lt hr6.lt HGR.out.1 HGR.out.2.1 hh6 (fun i hi => by rw [Nat.zero_add, hrow6.cell (by omega), hfA i hi]) (fun i hi => by rw [Nat.zero_add, hr6.cell (by omega), hf6 i hi]))
              have HX := Lib.hid (And.intro hrow6 (And.intro hfA (And.intro hr6 hf6)))
              have HCC := Lib.hid hch6
              clear hr6 hf6 hh6 hrow6 hch6 hfA
              go_wp2_with fail
              refine HNO.out.mono ?_
              rintro e w7 ⟨rfl, hh7, hch7⟩
              have HH7 := Lib.hid hh7; have HCH7 := Lib.hid hch7
              clear hh7 hch7
              go_wp2
              go_ret
              obtain ⟨x1, x2, x3, x4⟩ := HX.out
              obtain ⟨k4, k5, k6⟩ := HK.out
              refine ⟨rfl, ⟨ng, mn, 1, ⟨_, _, 1, 1, HH7.out, words_row (x1.chg HCH7.out HGR.out.1) x2 (nw_word hm0 (by omega)) (by omega) (by omega) (by omega), by omega, words_row (x3.chg HCH7.out HGR.out.2.1) x4 (nw_word (by omega) (by omega)) (by omega) (by omega) (by omega), by omega, by omega⟩, fun _ => hm0, fun x => ?_⟩, HCC.out.trans HCH7.out⟩
              have hngf : ng = fneg B := by rw [HNG.out]; simp [hf0]
              rw [hngf]
              by_cases hp : fplace B = 0
              · have ht0 : t = 0 := by omega
                have h9 := fcmp_big x B 0 (by omega)
                rw [ht0] at k4
                rw [← k4] at h9
                simpa using h9
              · have h9 := fcmp_frac x B mn 0 t k4 (by omega) (by omega)
                simpa using h9)
          · have hL := IntLsh_own rb 0 wc.heap.size 1 1 mn k _ _ ng w5.drew hm0 (by omega) (by omega) k1 (by omega) (by omega) (by rw [show (2 : Nat) ^ (64 * 1) = 18446744073709551616 by decide]; omega) HROW5.out.lt (fun i hi => by
              obtain rfl : i = 0 := by omega
              show w5.cell? _ = _
              rw [Nat.add_zero, HROW5.out.cell (by omega), HF2.out, HWD.out]) HH5'.out rfl rfl
            have HL := Lib.hid hL
            have hwk1 : IntKind.i64.wrap (k : Int) = (k : Int) := by simp only [IntKind.wrap_i64]; omega
            have hwk2 : IntKind.u64.wrap (k : Int) = (k : Int) := by simp only [IntKind.wrap_u64]; omega
            have HK := Lib.hid (And.intro k4 k5)
            clear hL k4 k5
            go_wp2_with fail
            go_region_law (first | (go_simp; go_at_call 182; refine HL.out.mono ?_; rintro e w6 ⟨rfl, m, hN, hm, s6, hnew6, hch6, hh6⟩; have HN := Lib.hid hN; have HNEW6 := Lib.hid hnew6; have HCH6 := Lib.hid hch6; have HH6 := Lib.hid hh6; clear hN hnew6 hch6 hh6))
            all_goals go_wp2_with fail
            all_goals (
              have hVp : 0 < mn * 2 ^ k := Nat.mul_pos hm0 (Nat.two_pow_pos k)
              rcases HNEW6.out with ⟨h, h', _⟩ | ⟨hmm0, hVm, g6, c6, f6, rfl, hg6, hc6, hc6', hr6, hf6⟩
              · exact absurd h' (Nat.ne_of_gt hVp)
              have hh6 : w6.heap[rb]? = some (.cells #[.bool ng, .slice (some ⟨g6, 0, none⟩) m c6, .bool false, .slice (some ⟨g5, 0, none⟩) 1 1] 307 (0, 0)) := HH6.out
              have hm16 : m ≤ 1024 := by
                have h1 := HN.out.2 hmm0
                obtain ⟨E, hE⟩ : ∃ E, E = 1074 := ⟨_, rfl⟩
                have hmn53' : mn < 2 ^ 53 := by simpa using hmn53
                have h2 : mn * 2 ^ k < 2 ^ 53 * 2 ^ E := Nat.mul_lt_mul_of_lt_of_le hmn53' (Nat.pow_le_pow_right (by omega) (by omega)) (Nat.two_pow_pos _)
                rw [← Nat.pow_add] at h2
                have h3 := (Nat.pow_lt_pow_iff_right (by omega : 1 < 2)).1 (Nat.lt_of_le_of_lt h1 h2)
                omega
              have hg6' : w5.heap.size ≤ g6 := hg6
              have hrow6 : Row w6 g5 246 1 f5 := HR5.out.keep (HCH6.out.block _ (by show g5 < w5.heap.size; exact HR5.out.lt) HGR.out.2.1)
              have hch6 : Chg rb wc w6 := ⟨HCH6.out.os.trans HCH35.out.os, HCH6.out.tape.trans HCH35.out.tape, HCH6.out.output.trans HCH35.out.output, Nat.le_trans HCH35.out.size HCH6.out.size, fun i hi hg => (HCH6.out.block i (Nat.lt_of_lt_of_le hi HCH35.out.size) hg).trans (HCH35.out.block i hi hg)⟩
              have hfA : ∀ i, i < 1 → f5 i = .int .u64 (wd 1 i) := fun i hi => by
                obtain rfl : i = 0 := by omega
                exact HF5.out
              have hrbl : rb < w5.heap.size := Nat.lt_of_lt_of_le lr HCH35.out.size
              have HNO := Lib.hid (norm_word rb g6 c6 g5 1 m 1 (mn * 2 ^ k) 1 ng false w6 hmm0 (by omega) (by omega) (by omega) (.inr rfl) HN.out (nw_word (by omega) (by omega)) (Nat.gcd_one_right _) hr6.lt hrow6.lt (by omega) HGR.out.2.1 hh6 (fun i hi => by rw [Nat.zero_add, hr6.cell (by omega), hf6 i hi]) (fun i hi => by rw [Nat.zero_add, hrow6.cell (by omega), hfA i hi]))
              have HX := Lib.hid (And.intro hrow6 (And.intro hfA (And.intro hr6 hf6)))
              have HCC := Lib.hid hch6
              have HG6 := Lib.hid (show g6 ≠ rb by omega)
              have HVP := Lib.hid hVp
              clear hVm hg6 hr6 hf6 hh6 hg6' hrow6 hch6 hfA hrbl hVp
              go_wp2_with fail
              refine HNO.out.mono ?_
              rintro e w7 ⟨rfl, hh7, hch7⟩
              have HH7 := Lib.hid hh7; have HCH7 := Lib.hid hch7
              clear hh7 hch7
              go_wp2
              go_ret
              obtain ⟨x1, x2, x3, x4⟩ := HX.out
              obtain ⟨k4, k5⟩ := HK.out
              refine ⟨rfl, ⟨ng, mn * 2 ^ k, 1, ⟨_, _, m, 1, HH7.out, words_row (x3.chg HCH7.out HG6.out) x4 HN.out hmm0 hc6 (by omega), by omega, words_row (x1.chg HCH7.out HGR.out.2.1) x2 (nw_word (by omega) (by omega)) (by omega) (by omega) (by omega), by omega, by omega⟩, fun _ => HVP.out, fun x => ?_⟩, HCC.out.trans HCH7.out⟩
              have hngf : ng = fneg B := by rw [HNG.out]; simp [hf0]
              rw [hngf, k4]
              have h9 := fcmp_big x B k k5
              simpa using h9)))

end Go.Proofs.YtpcleebnfgnhdaaGreatDoor
