import Derived.Test.YtpcleebnfgnhdaaGreatDoorGz9
import Derived.Deep.RegionHeld3
import Derived.Deep.CutRange
/- Walks: Int.QuoRem by 1. -/
set_option linter.unusedVariables false
set_option linter.unusedSimpArgs false
namespace Go.Proofs.YtpcleebnfgnhdaaGreatDoor
open Go.RowKit
open Num

def QM (w wx : World) (zb rb n V : Nat) (zn rn : Bool) (tz tr : Nat) : Prop :=
  ∃ c f, wx.heap[zb]? = some (.cells #[.bool zn, .slice (some ⟨w.heap.size, 0, none⟩) n c] tz (0, 0)) ∧ wx.heap[rb]? = some (.cells #[.bool rn, .slice none 0 0] tr (0, 0)) ∧
    n ≤ c ∧ c ≤ n + 4 ∧ Row wx w.heap.size 246 c f ∧ (∀ i, i < n → f i = .int .u64 (wd V i)) ∧ (∀ k, k < w.heap.size → k ≠ zb → k ≠ rb → wx.heap[k]? = w.heap[k]?) ∧ w.heap.size ≤ wx.heap.size ∧ wx.os = w.os ∧ wx.tape = w.tape ∧ wx.output = w.output

set_option maxHeartbeats 4000000 in
theorem QuoRem_one (zb rb bx ox b2 o2 gx px cx gy py cy n V : Nat) (zn rn xn yn : Bool) (ca ca2 : Array Value) (tz tr ta ta2 : Nat) (w : World) (h0 : 0 < n) (hn : n ≤ 16777216) (hV : V < 2 ^ (64 * n)) (hg : gx < w.heap.size) (hgy : gy < w.heap.size)
    (hz : w.heap[zb]? = some (.cells #[.bool zn, .slice none 0 0] tz (0, 0))) (hr : w.heap[rb]? = some (.cells #[.bool rn, .slice none 0 0] tr (0, 0)))
    (hx : w.heap[bx]? = some (.cells ca ta (0, 0))) (x0 : ca[ox]? = some (.bool xn)) (x1 : ca[ox + 1]? = some (.slice (some ⟨gx, px, none⟩) n cx))
    (hy : w.heap[b2]? = some (.cells ca2 ta2 (0, 0))) (y0 : ca2[o2]? = some (.bool yn)) (y1 : ca2[o2 + 1]? = some (.slice (some ⟨gy, py, none⟩) 1 cy))
    (hc : ∀ i, i < n → w.cell? ⟨gx, px + i, none⟩ = some (.int .u64 (wd V i))) (hcy : w.cell? ⟨gy, py, none⟩ = some (.int .u64 1))
    (hzr : zb ≠ rb) (hzx : zb ≠ bx) (hzy : zb ≠ b2) (hrx : rb ≠ bx) (hry : rb ≠ b2) :
    Calls Tryz.prog 229 #[.pointer (some ⟨zb, 0, none⟩), .pointer (some ⟨bx, ox, none⟩), .pointer (some ⟨b2, o2, none⟩), .pointer (some ⟨rb, 0, none⟩)] w fun e w' =>
      e = .returned (.tuple #[.pointer (some ⟨zb, 0, none⟩), .pointer (some ⟨rb, 0, none⟩)]) ∧ ∃ c f, w'.heap[zb]? = some (.cells #[.bool (xn != yn), .slice (some ⟨w.heap.size, 0, none⟩) n c] tz (0, 0)) ∧ w'.heap[rb]? = some (.cells #[.bool false, .slice none 0 0] tr (0, 0)) ∧
        n ≤ c ∧ c ≤ n + 4 ∧ Row w' w.heap.size 246 c f ∧ (∀ i, i < n → f i = .int .u64 (wd V i)) ∧ (∀ k, k < w.heap.size → k ≠ zb → k ≠ rb → w'.heap[k]? = w.heap[k]?) ∧ w.heap.size ≤ w'.heap.size ∧ w'.os = w.os ∧ w'.tape = w.tape ∧ w'.output = w.output := by
  have cz0 : w.cell? ⟨zb, 0, none⟩ = some (.bool zn) := (cell_of_row w _ _ _ _ (0, 0) hz).trans rfl
  have cz1 : w.cell? ⟨zb, 1, none⟩ = some (.slice none 0 0) := (cell_of_row w _ _ _ _ (0, 0) hz).trans rfl
  have cr0 : w.cell? ⟨rb, 0, none⟩ = some (.bool rn) := (cell_of_row w _ _ _ _ (0, 0) hr).trans rfl
  have cr1 : w.cell? ⟨rb, 1, none⟩ = some (.slice none 0 0) := (cell_of_row w _ _ _ _ (0, 0) hr).trans rfl
  have cx0 : w.cell? ⟨bx, ox, none⟩ = some (.bool xn) := (cell_of_row w _ _ _ _ (0, 0) hx).trans x0
  have cx1 : w.cell? ⟨bx, ox + 1, none⟩ = some (.slice (some ⟨gx, px, none⟩) n cx) := (cell_of_row w _ _ _ _ (0, 0) hx).trans x1
  have cy0 : w.cell? ⟨b2, o2, none⟩ = some (.bool yn) := (cell_of_row w _ _ _ _ (0, 0) hy).trans y0
  have cy1 : w.cell? ⟨b2, o2 + 1, none⟩ = some (.slice (some ⟨gy, py, none⟩) 1 cy) := (cell_of_row w _ _ _ _ (0, 0) hy).trans y1
  have fz : ∀ i, w.frozen? ⟨zb, i, none⟩ = false := fun i => by simp [World.frozen?, hz]
  have fr : ∀ i, w.frozen? ⟨rb, i, none⟩ = false := fun i => by simp [World.frozen?, hr]
  have lz := (Array.getElem?_eq_some_iff.1 hz).1
  have lr := (Array.getElem?_eq_some_iff.1 hr).1
  have lx := (Array.getElem?_eq_some_iff.1 hx).1
  have ly := (Array.getElem?_eq_some_iff.1 hy).1
  have HD := Lib.hid (natDiv_one gx px cx gy py cy n V w.drew h0 (by omega) hg hc hcy)
  have HZ := Lib.hid hz; have HR := Lib.hid hr; have HX := Lib.hid hx; have HY := Lib.hid hy
  clear hz hr hx hy x0 x1 y0 y1 hc hcy
  go_enter Tryz.func229, Tryz.ntmps229
  go_upto_region 1 with fail
  go_cut [] from 10 to 35 (fun wx => QM w wx zb rb n V zn rn tz tr)
  case first =>
    go_region_law (first | (go_simp; go_at_call 196; refine HD.out.mono ?_; rintro e w2 ⟨c, hc1, hc2, rfl, hb, f, hrow, hf⟩; have p0 : w2.cell? ⟨zb, 0, none⟩ = some (.bool zn) := (hb.cell (p := ⟨zb, 0, none⟩) lz).trans cz0; have p1 : w2.cell? ⟨zb, 1, none⟩ = some (.slice none 0 0) := (hb.cell (p := ⟨zb, 1, none⟩) lz).trans cz1; have p2 : w2.cell? ⟨rb, 0, none⟩ = some (.bool rn) := (hb.cell (p := ⟨rb, 0, none⟩) lr).trans cr0; have p3 : w2.cell? ⟨rb, 1, none⟩ = some (.slice none 0 0) := (hb.cell (p := ⟨rb, 1, none⟩) lr).trans cr1; have p4 : w2.cell? ⟨bx, ox, none⟩ = some (.bool xn) := (hb.cell (p := ⟨bx, ox, none⟩) lx).trans cx0; have p5 : w2.cell? ⟨b2, o2, none⟩ = some (.bool yn) := (hb.cell (p := ⟨b2, o2, none⟩) ly).trans cy0; have p6 : w2.cell? ⟨bx, ox + 1, none⟩ = some (.slice (some ⟨gx, px, none⟩) n cx) := (hb.cell (p := ⟨bx, ox + 1, none⟩) lx).trans cx1; have p7 : w2.cell? ⟨b2, o2 + 1, none⟩ = some (.slice (some ⟨gy, py, none⟩) 1 cy) := (hb.cell (p := ⟨b2, o2 + 1, none⟩) ly).trans cy1; have f1 : ∀ i, w2.frozen? ⟨zb, i, none⟩ = false := (fun i => (hb.frozen (p := ⟨zb, i, none⟩) lz).trans (fz i)); have f2 : ∀ i, w2.frozen? ⟨rb, i, none⟩ = false := (fun i => (hb.frozen (p := ⟨rb, i, none⟩) lr).trans (fr i)); have HB := Lib.hid hb; have HROW := Lib.hid hrow; have HF := Lib.hid hf; clear hb hrow hf))
    all_goals (
      go_wp2_with fail
      go_meet
      have hne := hzr
      have h2 := set1 (i := 1) (x := .slice (some ⟨w.heap.size, 0, none⟩) n c) ((HB.out.block zb lz).trans HZ.out)
      have h3 := (Below.heap_setCell _ (⟨rb, 1, none⟩ : Addr) (.slice none 0 0) zb hne).trans h2
      have h4 := (Below.heap_setCell w2 (⟨zb, 1, none⟩ : Addr) (.slice (some ⟨w.heap.size, 0, none⟩) n c) rb (fun e => hne e.symm)).trans ((HB.out.block rb lr).trans HR.out)
      have h5 := set1 (i := 1) (x := .slice none 0 0) h4
      exact ⟨c, f, h3, h5, hc1, hc2, (HROW.out.far (by show w.heap.size ≠ zb; omega) _).far (by show w.heap.size ≠ rb; omega) _, HF.out, fun k hk h1 h2 => (Below.heap_setCell _ (⟨rb, 1, none⟩ : Addr) _ k h2).trans ((Below.heap_setCell _ (⟨zb, 1, none⟩ : Addr) _ k h1).trans (HB.out.block k hk)), by have := HB.out.size; simpa [World.setCell] using this, HB.out.os, HB.out.tape, HB.out.output⟩)
  case rest =>
    obtain ⟨c, f, m1, m2, hc1, hc2, hrow, hf, hk, hsz, ho1, ho2, ho3⟩ := hcut
    have r1 : wc.cell? ⟨zb, 1, none⟩ = some (.slice (some ⟨w.heap.size, 0, none⟩) n c) := (cell_of_row wc _ 1 _ _ (0, 0) m1).trans rfl
    have r0 : wc.cell? ⟨zb, 0, none⟩ = some (.bool zn) := (cell_of_row wc _ 0 _ _ (0, 0) m1).trans rfl
    have r3 : wc.cell? ⟨rb, 1, none⟩ = some (.slice none 0 0) := (cell_of_row wc _ 1 _ _ (0, 0) m2).trans rfl
    have r2 : wc.cell? ⟨rb, 0, none⟩ = some (.bool rn) := (cell_of_row wc _ 0 _ _ (0, 0) m2).trans rfl
    have r4 : wc.cell? ⟨bx, ox, none⟩ = some (.bool xn) := (World.cell?_of_block (w := w) (hk bx lx (fun e => hzx e.symm) (fun e => hrx e.symm))).trans cx0
    have r5 : wc.cell? ⟨b2, o2, none⟩ = some (.bool yn) := (World.cell?_of_block (w := w) (hk b2 ly (fun e => hzy e.symm) (fun e => hry e.symm))).trans cy0
    have g1 : ∀ i, wc.frozen? ⟨zb, i, none⟩ = false := fun i => by simp [World.frozen?, m1]
    have g2 : ∀ i, wc.frozen? ⟨rb, i, none⟩ = false := fun i => by simp [World.frozen?, m2]
    have M1 := Lib.hid m1; have M2 := Lib.hid m2; have HROW := Lib.hid hrow; have HF := Lib.hid hf; have HK := Lib.hid hk; have HSZ := Lib.hid hsz; have HO := Lib.hid (And.intro ho1 (And.intro ho2 ho3))
    clear m1 m2 hrow hf hk hsz ho1 ho2 ho3
    go_upto_region 2 with fail
    go_cut [] from 36 to 70 (fun wd => wd = ((wc.setCell ⟨zb, 0, none⟩ (.bool (xn != yn))).setCell ⟨rb, 0, none⟩ (.bool false)).drew)
    case first =>
      go_region
      all_goals go_wp2_with fail
      all_goals go_meet
      all_goals rfl
    case rest =>
      subst hcut
      go_wp2
      refine bodyPost_ret (v := .tuple #[.pointer (some ⟨zb, 0, none⟩), .pointer (some ⟨rb, 0, none⟩)]) (by simp [results, Tryz.results229, go_sem]) rfl ⟨rfl, c, f, ?_, ?_, hc1, hc2, ?_, HF.out, fun k hk h1 h2 => ?_, ?_, HO.out.1, HO.out.2.1, HO.out.2.2⟩
      · exact (Below.heap_setCell _ (⟨rb, 0, none⟩ : Addr) (.bool false) zb hzr).trans (set1 (i := 0) (x := .bool (xn != yn)) M1.out)
      · exact set1 (i := 0) (x := .bool false) ((Below.heap_setCell wc (⟨zb, 0, none⟩ : Addr) (.bool (xn != yn)) rb (fun e => hzr e.symm)).trans M2.out)
      · exact ((HROW.out.far (by show w.heap.size ≠ zb; omega) _).far (by show w.heap.size ≠ rb; omega) _).drew
      · exact (Below.heap_setCell _ (⟨rb, 0, none⟩ : Addr) _ k h2).trans ((Below.heap_setCell _ (⟨zb, 0, none⟩ : Addr) _ k h1).trans (HK.out k hk h1 h2))
      · have := HSZ.out; simpa [World.setCell] using this

end Go.Proofs.YtpcleebnfgnhdaaGreatDoor
