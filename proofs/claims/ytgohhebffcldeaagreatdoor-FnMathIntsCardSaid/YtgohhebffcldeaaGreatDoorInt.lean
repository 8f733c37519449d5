/- Walks: the integers of the package (*Int). -/
import Derived.Test.YtgohhebffcldeaaGreatDoorNat6
import Derived.Deep.RegionWith
import Derived.Deep.RegionHeld3
import Derived.Deep.RegionLaw
set_option linter.unusedVariables false
set_option linter.unusedSimpArgs false
namespace Go.Proofs.YtgohhebffcldeaaGreatDoor
open Go.RowKit
open Num

theorem under_pInt : Tryz.prog.underlying 93 = some (.pointer 142) := by kernel_rfl
theorem info_Int : ∃ j, Tryz.prog.info? 142 = some j ∧ j.size ≠ 0 := by
  have h : (Tryz.prog.info? 142).map (·.size) = some 2 := by kernel_rfl
  obtain ⟨j, hj, hs⟩ := Option.map_eq_some_iff.1 h
  exact ⟨j, hj, by omega⟩

/-- the slice s holds V in n words, in a block that is new since w; or n is 0 and s is nil -/
def NatNew (w w' : World) (s : Value) (n V : Nat) : Prop :=
  (n = 0 ∧ V = 0 ∧ s = .slice none 0 0) ∨ (0 < n ∧ V < 2 ^ (64 * n) ∧ ∃ g c f, s = .slice (some ⟨g, 0, none⟩) n c ∧ w.heap.size ≤ g ∧ n ≤ c ∧ c ≤ 2147483651 ∧ Row w' g 228 c f ∧ ∀ i, i < n → f i = .int .u64 (wd V i))
/-- what a method of *Int leaves that sets its receiver at ⟨b, o⟩ -/
def IntSet (b o : Nat) (cz : Array Value) (tz : Nat) (neg : Bool) (n V : Nat) (w w' : World) : Prop :=
  ∃ s, NatNew w w' s n V ∧ Chg b w w' ∧ w'.heap[b]? = some (.cells ((cz.setIfInBounds (o + 1) s).setIfInBounds o (.bool neg)) tz (0, 0))

theorem NatNew.far {w w1 : World} {s : Value} {n V : Nat} (h : NatNew w w1 s n V) {p : Addr} (hp : p.block < w.heap.size) (v : Value) : NatNew w (w1.setCell p v) s n V := by
  rcases h with h | ⟨h0, hV, g, c, f, hs, hg, hc1, hc2, hr, hf⟩
  · exact .inl h
  · exact .inr ⟨h0, hV, g, c, f, hs, hg, hc1, hc2, hr.far (by omega) v, hf⟩
theorem NatNew.heap {w w1 w2 : World} {s : Value} {n V : Nat} (h : NatNew w w1 s n V) (hb : ∀ k, k < w1.heap.size → w.heap.size ≤ k → w2.heap[k]? = w1.heap[k]?) : NatNew w w2 s n V := by
  rcases h with h | ⟨h0, hV, g, c, f, hs, hg, hc1, hc2, hr, hf⟩
  · exact .inl h
  · exact .inr ⟨h0, hV, g, c, f, hs, hg, hc1, hc2, hr.keep (hb g hr.lt hg), hf⟩
theorem intSet_mk {b o tz n V : Nat} {cz : Array Value} {xn : Bool} {w w2 : World} {s : Value} (hb2 : Below w.heap.size w w2) (hz : w.heap[b]? = some (.cells cz tz (0, 0))) (hn : NatNew w w2 s n V) :
    IntSet b o cz tz xn n V w ((w2.setCell ⟨b, o + 1, none⟩ s).setCell ⟨b, o, none⟩ (.bool xn)) := by
  have hbl := (Array.getElem?_eq_some_iff.1 hz).1
  refine ⟨s, (hn.far hbl _).far hbl _, ((Chg.of_below hb2).set _ _).set _ _, ?_⟩
  have h2 : w2.heap[b]? = some (.cells cz tz (0, 0)) := (hb2.block b hbl).trans hz
  have e1 : (w2.setCell ⟨b, o + 1, none⟩ s).heap[b]? = some (.cells (cz.setIfInBounds (o + 1) s) tz (0, 0)) := by
    simp only [World.setCell, Array.getElem?_modify, if_true, h2, Option.map_some]; rfl
  simp only [World.setCell, Array.getElem?_modify, if_true] at e1 ⊢
  simp only [e1, Option.map_some]; rfl

theorem Int_Set_some (b o bx ox gx px cx n V : Nat) (cz ca : Array Value) (tz ta : Nat) (zn xn : Bool) (w : World) (hV : V < 2 ^ (64 * n)) (h0 : 0 < n) (hn : n ≤ 2147483647) (hgx : gx < w.heap.size)
    (hz : w.heap[b]? = some (.cells cz tz (0, 0))) (hx : w.heap[bx]? = some (.cells ca ta (0, 0)))
    (z0 : cz[o]? = some (.bool zn)) (z1 : cz[o + 1]? = some (.slice none 0 0))
    (x0 : ca[ox]? = some (.bool xn)) (x1 : ca[ox + 1]? = some (.slice (some ⟨gx, px, none⟩) n cx)) (hne : b ≠ bx)
    (hc : ∀ i, i < n → w.cell? ⟨gx, px + i, none⟩ = some (.int .u64 (wd V i))) :
    Calls Tryz.prog 127 #[.pointer (some ⟨b, o, none⟩), .pointer (some ⟨bx, ox, none⟩)] w fun e w' => e = .returned (.pointer (some ⟨b, o, none⟩)) ∧ IntSet b o cz tz xn n V w w' := by
  have HS := fun W hb h => Lib.hid (set_some gx px cx n V W h0 (by omega) hb h)
  obtain ⟨j, hj, hjs⟩ := info_Int
  have hp := run_neq_ptr_other (P := Tryz.prog) w (a := ⟨b, o, none⟩) (b := ⟨bx, ox, none⟩) under_pInt hj hjs (by intro e; injection e with e; exact hne e) hz hx
  have hz0 : w.cell? ⟨b, o, none⟩ = some (.bool zn) := (cell_of_row w b o cz tz (0, 0) hz).trans z0
  have hz1 : w.cell? ⟨b, o + 1, none⟩ = some (.slice none 0 0) := (cell_of_row w b (o + 1) cz tz (0, 0) hz).trans z1
  have hx0 : w.cell? ⟨bx, ox, none⟩ = some (.bool xn) := (cell_of_row w bx ox ca ta (0, 0) hx).trans x0
  have hx1 : w.cell? ⟨bx, ox + 1, none⟩ = some (.slice (some ⟨gx, px, none⟩) n cx) := (cell_of_row w bx (ox + 1) ca ta (0, 0) hx).trans x1
  have hf0 : w.frozen? ⟨b, o, none⟩ = false := by simp [World.frozen?, hz]
  have hf1 : w.frozen? ⟨b, o + 1, none⟩ = false := by simp [World.frozen?, hz]
  have hbl := (Array.getElem?_eq_some_iff.1 hz).1
  have hbxl := (Array.getElem?_eq_some_iff.1 hx).1
  have HZ := Lib.hid hz; clear hz
  have HX := Lib.hid hx; clear hx
  have HC := Lib.hid hc; clear hc
  have Z0 := Lib.hid z0; clear z0
  have Z1 := Lib.hid z1; clear z1
  clear x0 x1 hj hjs
  go_enter Tryz.func127, Tryz.ntmps127
  go_wp2_with fail
  go_region_law (first | (go_simp; go_at_call 156; refine ((HS w.drew hgx (fun i hi => HC.out i hi)).out).mono ?_; rintro e w2 ⟨g, c, hg, hc1, hc2, rfl, hb2, f, hr2, hf2⟩; have q1 : w2.cell? ⟨b, o + 1, none⟩ = some (.slice none 0 0) := (hb2.cell (p := ⟨b, o + 1, none⟩) hbl).trans hz1; have q2 : w2.frozen? ⟨b, o + 1, none⟩ = false := (hb2.frozen (p := ⟨b, o + 1, none⟩) hbl).trans hf1; have q3 : w2.cell? ⟨bx, ox, none⟩ = some (.bool xn) := (hb2.cell (p := ⟨bx, ox, none⟩) hbxl).trans hx0; have q4 : w2.cell? ⟨b, o, none⟩ = some (.bool zn) := (hb2.cell (p := ⟨b, o, none⟩) hbl).trans hz0; have q5 : w2.frozen? ⟨b, o, none⟩ = false := (hb2.frozen (p := ⟨b, o, none⟩) hbl).trans hf0; have hgb : g ≠ b := (by have h9 : g = w.heap.size := hg; omega); have q6 : w2.cell? ⟨bx, ox + 1, none⟩ = some (.slice (some ⟨gx, px, none⟩) n cx) := (hb2.cell (p := ⟨bx, ox + 1, none⟩) hbxl).trans hx1; have HG := Lib.hid hg; clear hg; have HF2 := Lib.hid hf2; clear hf2; have HR2 := Lib.hid hr2; clear hr2))
  all_goals go_wp2
  all_goals go_ret
  all_goals exact ⟨rfl, intSet_mk (w := w) (below_undrew hb2) HZ.out (.inr ⟨h0, hV, g, c, f, rfl, by have h9 : g = w.heap.size := HG.out; omega, hc1, by omega, HR2.out, HF2.out⟩)⟩

end Go.Proofs.YtgohhebffcldeaaGreatDoor
