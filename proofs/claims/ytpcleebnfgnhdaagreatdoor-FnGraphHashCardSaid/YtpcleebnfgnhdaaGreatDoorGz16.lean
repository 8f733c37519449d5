import Derived.Test.YtpcleebnfgnhdaaGreatDoorGz15
import Derived.Deep.RegionHeld3
import Derived.Deep.CutRange
/- Walks: Int.QuoRem by a word, of two that are not below 0; one step of Euclid. -/
set_option linter.unusedVariables false
set_option linter.unusedSimpArgs false
namespace Go.Proofs.YtpcleebnfgnhdaaGreatDoor
open Go.RowKit
open Num

def QW (w wx : World) (zb rb Q R : Nat) (zn rn : Bool) (tz tr : Nat) : Prop :=
  ∃ s l t k, wx.heap[zb]? = some (.cells #[.bool zn, s] tz (0, 0)) ∧ wx.heap[rb]? = some (.cells #[.bool rn, t] tr (0, 0)) ∧
    (∃ a c, s = .slice a l c) ∧ (∃ a c, t = .slice a k c) ∧ Nw k R ∧ k ≤ 1 ∧ NatNew w wx t k R ∧ (∀ k, k < w.heap.size → k ≠ zb → k ≠ rb → wx.heap[k]? = w.heap[k]?) ∧ w.heap.size ≤ wx.heap.size ∧ wx.os = w.os ∧ wx.tape = w.tape ∧ wx.output = w.output
theorem NatNew.shape {w w1 : World} {s : Value} {n V : Nat} (h : NatNew w w1 s n V) : ∃ a c, s = .slice a n c := by
  rcases h with ⟨rfl, _, rfl⟩ | ⟨_, _, g, c, f, rfl, _⟩
  · exact ⟨_, _, rfl⟩
  · exact ⟨_, _, rfl⟩

set_option maxHeartbeats 4000000 in
theorem QuoRem_word (zb rb bx ox b2 o2 gx px cx gy py cy n X y : Nat) (zn rn : Bool) (ca ca2 : Array Value) (tz tr ta ta2 : Nat) (w : World) (hn2 : 2 ≤ n) (hn : n ≤ 1048576) (hNX : Nw n X) (hXy : y ≤ X) (hy : 0 < y) (hy2 : y < 18446744073709551616) (hg : gx < w.heap.size)
    (hz : w.heap[zb]? = some (.cells #[.bool zn, .slice none 0 0] tz (0, 0))) (hr : w.heap[rb]? = some (.cells #[.bool rn, .slice none 0 0] tr (0, 0)))
    (hx : w.heap[bx]? = some (.cells ca ta (0, 0))) (x0 : ca[ox]? = some (.bool false)) (x1 : ca[ox + 1]? = some (.slice (some ⟨gx, px, none⟩) n cx))
    (hyb : w.heap[b2]? = some (.cells ca2 ta2 (0, 0))) (y0 : ca2[o2]? = some (.bool false)) (y1 : ca2[o2 + 1]? = some (.slice (some ⟨gy, py, none⟩) 1 cy))
    (hc : ∀ i, i < n → w.cell? ⟨gx, px + i, none⟩ = some (.int .u64 (wd X i))) (hcy : w.cell? ⟨gy, py, none⟩ = some (.int .u64 y))
    (hzr : zb ≠ rb) (hzx : zb ≠ bx) (hzy : zb ≠ b2) (hrx : rb ≠ bx) (hry : rb ≠ b2) :
    Calls Tryz.prog 229 #[.pointer (some ⟨zb, 0, none⟩), .pointer (some ⟨bx, ox, none⟩), .pointer (some ⟨b2, o2, none⟩), .pointer (some ⟨rb, 0, none⟩)] w fun e w' =>
      e = .returned (.tuple #[.pointer (some ⟨zb, 0, none⟩), .pointer (some ⟨rb, 0, none⟩)]) ∧ QW w w' zb rb (X / y) (X % y) false false tz tr := by
  have cz0 : w.cell? ⟨zb, 0, none⟩ = some (.bool zn) := (cell_of_row w _ _ _ _ (0, 0) hz).trans rfl
  have cz1 : w.cell? ⟨zb, 1, none⟩ = some (.slice none 0 0) := (cell_of_row w _ _ _ _ (0, 0) hz).trans rfl
  have cr0 : w.cell? ⟨rb, 0, none⟩ = some (.bool rn) := (cell_of_row w _ _ _ _ (0, 0) hr).trans rfl
  have cr1 : w.cell? ⟨rb, 1, none⟩ = some (.slice none 0 0) := (cell_of_row w _ _ _ _ (0, 0) hr).trans rfl
  have cx0 : w.cell? ⟨bx, ox, none⟩ = some (.bool false) := (cell_of_row w _ _ _ _ (0, 0) hx).trans x0
  have cx1 : w.cell? ⟨bx, ox + 1, none⟩ = some (.slice (some ⟨gx, px, none⟩) n cx) := (cell_of_row w _ _ _ _ (0, 0) hx).trans x1
  have cy0 : w.cell? ⟨b2, o2, none⟩ = some (.bool false) := (cell_of_row w _ _ _ _ (0, 0) hyb).trans y0
  have cy1 : w.cell? ⟨b2, o2 + 1, none⟩ = some (.slice (some ⟨gy, py, none⟩) 1 cy) := (cell_of_row w _ _ _ _ (0, 0) hyb).trans y1
  have fz : ∀ i, w.frozen? ⟨zb, i, none⟩ = false := fun i => by simp [World.frozen?, hz]
  have fr : ∀ i, w.frozen? ⟨rb, i, none⟩ = false := fun i => by simp [World.frozen?, hr]
  have lz := (Array.getElem?_eq_some_iff.1 hz).1
  have lr := (Array.getElem?_eq_some_iff.1 hr).1
  have lx := (Array.getElem?_eq_some_iff.1 hx).1
  have ly := (Array.getElem?_eq_some_iff.1 hyb).1
  have HD := Lib.hid (natDiv_word none gx px cx gy py cy n X y w.drew hn2 hn hNX.1 hXy hy hy2 hg hNX hc hcy)
  clear hNX hXy
  have HZ := Lib.hid hz; have HR := Lib.hid hr; have HX := Lib.hid hx; have HY := Lib.hid hyb
  clear hz hr hx hyb x0 x1 y0 y1 hc hcy
  go_enter Tryz.func229, Tryz.ntmps229
  go_upto_region 1 with fail
  go_cut [] from 10 to 35 (fun wx => QW w wx zb rb (X / y) (X % y) zn rn tz tr)
  case first =>
    go_region_law (first | (go_simp; go_at_call 196; refine HD.out.mono ?_; rintro e w2 ⟨s, l, t, k, rfl, hNl, hl, hsn, hNk, hk1, htn, hb⟩; obtain ⟨sa, sc, rfl⟩ := hsn.shape; obtain ⟨ta', tc, rfl⟩ := htn.shape; have p0 : w2.cell? ⟨zb, 0, none⟩ = some (.bool zn) := (hb.cell (p := ⟨zb, 0, none⟩) lz).trans cz0; have p1 : w2.cell? ⟨zb, 1, none⟩ = some (.slice none 0 0) := (hb.cell (p := ⟨zb, 1, none⟩) lz).trans cz1; have p2 : w2.cell? ⟨rb, 0, none⟩ = some (.bool rn) := (hb.cell (p := ⟨rb, 0, none⟩) lr).trans cr0; have p3 : w2.cell? ⟨rb, 1, none⟩ = some (.slice none 0 0) := (hb.cell (p := ⟨rb, 1, none⟩) lr).trans cr1; have p4 : w2.cell? ⟨bx, ox, none⟩ = some (.bool false) := (hb.cell (p := ⟨bx, ox, none⟩) lx).trans cx0; have p5 : w2.cell? ⟨b2, o2, none⟩ = some (.bool false) := (hb.cell (p := ⟨b2, o2, none⟩) ly).trans cy0; have p6 : w2.cell? ⟨bx, ox + 1, none⟩ = some (.slice (some ⟨gx, px, none⟩) n cx) := (hb.cell (p := ⟨bx, ox + 1, none⟩) lx).trans cx1; have p7 : w2.cell? ⟨b2, o2 + 1, none⟩ = some (.slice (some ⟨gy, py, none⟩) 1 cy) := (hb.cell (p := ⟨b2, o2 + 1, none⟩) ly).trans cy1; have f1 : ∀ i, w2.frozen? ⟨zb, i, none⟩ = false := (fun i => (hb.frozen (p := ⟨zb, i, none⟩) lz).trans (fz i)); have f2 : ∀ i, w2.frozen? ⟨rb, i, none⟩ = false := (fun i => (hb.frozen (p := ⟨rb, i, none⟩) lr).trans (fr i)); have HB := Lib.hid hb; have HTN := Lib.hid htn; have HNK := Lib.hid hNk; clear hb hsn htn hNl hNk))
    all_goals (
      go_wp2_with fail
      go_meet
      have hne := hzr
      have h2 := set1 (i := 1) (x := .slice sa l sc) ((HB.out.block zb lz).trans HZ.out)
      have h3 := (Below.heap_setCell _ (⟨rb, 1, none⟩ : Addr) (.slice ta' k tc) zb hne).trans h2
      have h4 := (Below.heap_setCell w2 (⟨zb, 1, none⟩ : Addr) (.slice sa l sc) rb (fun e => hne e.symm)).trans ((HB.out.block rb lr).trans HR.out)
      have h5 := set1 (i := 1) (x := .slice ta' k tc) h4
      exact ⟨_, l, _, k, h3, h5, ⟨sa, sc, rfl⟩, ⟨ta', tc, rfl⟩, HNK.out, hk1, (NatNew.far (w := w) HTN.out (show zb < w.heap.size from lz) _).far (show rb < w.heap.size from lr) _, fun k hk h1 h2 => (Below.heap_setCell _ (⟨rb, 1, none⟩ : Addr) _ k h2).trans ((Below.heap_setCell _ (⟨zb, 1, none⟩ : Addr) _ k h1).trans (HB.out.block k hk)), by have := HB.out.size; simpa [World.setCell] using this, HB.out.os, HB.out.tape, HB.out.output⟩)
  case rest =>
    obtain ⟨s, l, t, k, m1, m2, ⟨sa, sc, rfl⟩, ⟨ta', tc, rfl⟩, hNk, hk1, htn, hk, hsz, ho1, ho2, ho3⟩ := hcut
    have r1 : wc.cell? ⟨zb, 1, none⟩ = some (.slice sa l sc) := (cell_of_row wc _ 1 _ _ (0, 0) m1).trans rfl
    have r0 : wc.cell? ⟨zb, 0, none⟩ = some (.bool zn) := (cell_of_row wc _ 0 _ _ (0, 0) m1).trans rfl
    have r3 : wc.cell? ⟨rb, 1, none⟩ = some (.slice ta' k tc) := (cell_of_row wc _ 1 _ _ (0, 0) m2).trans rfl
    have r2 : wc.cell? ⟨rb, 0, none⟩ = some (.bool rn) := (cell_of_row wc _ 0 _ _ (0, 0) m2).trans rfl
    have r4 : wc.cell? ⟨bx, ox, none⟩ = some (.bool false) := (World.cell?_of_block (w := w) (hk bx lx (fun e => hzx e.symm) (fun e => hrx e.symm))).trans cx0
    have r5 : wc.cell? ⟨b2, o2, none⟩ = some (.bool false) := (World.cell?_of_block (w := w) (hk b2 ly (fun e => hzy e.symm) (fun e => hry e.symm))).trans cy0
    have g1 : ∀ i, wc.frozen? ⟨zb, i, none⟩ = false := fun i => by simp [World.frozen?, m1]
    have g2 : ∀ i, wc.frozen? ⟨rb, i, none⟩ = false := fun i => by simp [World.frozen?, m2]
    have M1 := Lib.hid m1; have M2 := Lib.hid m2; have HTN := Lib.hid htn; have HNK := Lib.hid hNk; have HK := Lib.hid hk; have HSZ := Lib.hid hsz; have HO := Lib.hid (And.intro ho1 (And.intro ho2 ho3))
    clear m1 m2 htn hNk hk hsz ho1 ho2 ho3
    go_upto_region 2 with fail
    go_cut [] from 36 to 70 (fun wd => wd = ((wc.setCell ⟨zb, 0, none⟩ (.bool false)).setCell ⟨rb, 0, none⟩ (.bool false)).drew)
    case first =>
      by_cases hl0 : 0 < l
      all_goals by_cases hk0 : 0 < k
      all_goals go_region
      all_goals go_wp2_with fail
      all_goals go_meet
      all_goals rfl
    case rest =>
      subst hcut
      go_wp2
      refine bodyPost_ret (v := .tuple #[.pointer (some ⟨zb, 0, none⟩), .pointer (some ⟨rb, 0, none⟩)]) (by simp [results, Tryz.results229, go_sem]) rfl ⟨rfl, _, l, _, k, ?_, ?_, ⟨sa, sc, rfl⟩, ⟨ta', tc, rfl⟩, HNK.out, hk1, ?_, fun k hk h1 h2 => ?_, ?_, HO.out.1, HO.out.2.1, HO.out.2.2⟩
      · exact (Below.heap_setCell _ (⟨rb, 0, none⟩ : Addr) (.bool false) zb hzr).trans (set1 (i := 0) (x := .bool false) M1.out)
      · exact set1 (i := 0) (x := .bool false) ((Below.heap_setCell wc (⟨zb, 0, none⟩ : Addr) (.bool false) rb (fun e => hzr e.symm)).trans M2.out)
      · exact ((HTN.out.far (p := ⟨zb, 0, none⟩) lz _).far (p := ⟨rb, 0, none⟩) lr _).heap (fun k _ _ => rfl)
      · exact (Below.heap_setCell _ (⟨rb, 0, none⟩ : Addr) _ k h2).trans ((Below.heap_setCell _ (⟨zb, 0, none⟩ : Addr) _ k h1).trans (HK.out k hk h1 h2))
      · have := HSZ.out; simpa [World.setCell] using this

end Go.Proofs.YtpcleebnfgnhdaaGreatDoor
