/- Walks: intOne, SetUint64, Int.Lsh in place, divW by 1, nat.div by 1, Int.Abs, the stack. -/
import Derived.Test.YtgohhebffcldeaaGreatDoorF2I
set_option linter.unusedVariables false
set_option linter.unusedSimpArgs false
namespace Go.Proofs.YtgohhebffcldeaaGreatDoor
open Go.RowKit
open Num

theorem natOne_any (w : World) :
    Calls Tryz.prog 200 #[] w fun e w' => e = .returned (.slice (some ⟨w.heap.size, 0, none⟩) 1 1) ∧ w' = w.alloc (.cells #[.int .u64 1] 228) := by
  go_enter Tryz.func200, Tryz.ntmps200
  go_wp2
  go_ret
  exact ⟨rfl, rfl⟩
theorem intOne_any (w : World) :
    Calls Tryz.prog 178 #[] w fun e w' => e = .returned (.pointer (some ⟨w.heap.size + 1, 0, none⟩)) ∧ w' = (w.alloc (.cells #[.int .u64 1] 228)).alloc (.cells #[.bool false, .slice (some ⟨w.heap.size, 0, none⟩) 1 1] 142) := by
  go_enter Tryz.func178, Tryz.ntmps178
  go_wp2_with fail
  refine (natOne_any _).mono ?_
  rintro e w' ⟨rfl, rfl⟩
  go_wp2
  go_ret
  exact ⟨rfl, rfl⟩

theorem SetUint64_own (b o x : Nat) (cz : Array Value) (tz : Nat) (zn : Bool) (w : World) (hx : 0 < x) (hl : x ≤ 18446744073709551615)
    (hz : w.heap[b]? = some (.cells cz tz (0, 0))) (z0 : cz[o]? = some (.bool zn)) (z1 : cz[o + 1]? = some (.slice none 0 0)) :
    Calls Tryz.prog 177 #[.pointer (some ⟨b, o, none⟩), .int .u64 x] w fun e w' => e = .returned (.pointer (some ⟨b, o, none⟩)) ∧ ∃ f, w'.heap[b]? = some (.cells ((cz.setIfInBounds (o + 1) (.slice (some ⟨w.heap.size, 0, none⟩) 1 1)).setIfInBounds o (.bool false)) tz (0, 0)) ∧ Chg b w w' ∧ Row w' w.heap.size 228 1 f ∧ f 0 = .int .u64 x := by
  have hz0 : w.cell? ⟨b, o, none⟩ = some (.bool zn) := (cell_of_row w b o cz tz (0, 0) hz).trans z0
  have hz1 : w.cell? ⟨b, o + 1, none⟩ = some (.slice none 0 0) := (cell_of_row w b (o + 1) cz tz (0, 0) hz).trans z1
  have hbl := (Array.getElem?_eq_some_iff.1 hz).1
  have hf : ∀ i, w.frozen? ⟨b, i, none⟩ = false := fun i => by simp [World.frozen?, hz]
  have HZ := Lib.hid hz; clear hz
  go_enter Tryz.func177, Tryz.ntmps177
  go_wp2_with fail
  refine (setUint64_any x _ hx hl).mono ?_
  rintro e w2 ⟨g, c, hg, rfl, rfl, hb2, hsz, f, hr2, hf2⟩
  have q0 : w2.cell? ⟨b, o, none⟩ = some (.bool zn) := (hb2.cell (p := ⟨b, o, none⟩) hbl).trans hz0
  have q1 : w2.cell? ⟨b, o + 1, none⟩ = some (.slice none 0 0) := (hb2.cell (p := ⟨b, o + 1, none⟩) hbl).trans hz1
  have f2 : ∀ i, w2.frozen? ⟨b, i, none⟩ = false := fun i => (hb2.frozen (p := ⟨b, i, none⟩) hbl).trans (hf i)
  have HB2 := Lib.hid hb2; have HR2 := Lib.hid hr2; have HF2 := Lib.hid hf2; have HG := Lib.hid hg; have HS := Lib.hid hsz
  clear hb2 hr2 hf2 hg hsz
  go_wp2
  go_ret
  obtain rfl : g = w.heap.size := HG.out
  refine ⟨rfl, f, set1 (set1 ((HB2.out.block b hbl).trans HZ.out)), ((Chg.of_below HB2.out).set _ _).set _ _, (HR2.out.far (by show w.heap.size ≠ b; omega) _).far (by show w.heap.size ≠ b; omega) _, HF2.out⟩

theorem IntLsh_own (b o g n c V s : Nat) (cz : Array Value) (tz : Nat) (neg : Bool) (w : World) (hVp : 0 < V) (h0 : 0 < n) (hn : n ≤ 1048576) (hs0 : 0 < s) (hs : s ≤ 65536) (hcap : c < n + s / 64 + 1) (hV : V < 2 ^ (64 * n)) (hg : g < w.heap.size)
    (hc : ∀ i, i < n → w.cell? ⟨g, 0 + i, none⟩ = some (.int .u64 (wd V i)))
    (hz : w.heap[b]? = some (.cells cz tz (0, 0))) (z0 : cz[o]? = some (.bool neg)) (z1 : cz[o + 1]? = some (.slice (some ⟨g, 0, none⟩) n c)) :
    Calls Tryz.prog 179 #[.pointer (some ⟨b, o, none⟩), .pointer (some ⟨b, o, none⟩), .int .u64 s] w fun e w' => e = .returned (.pointer (some ⟨b, o, none⟩)) ∧ ∃ m, Nw m (V * 2 ^ s) ∧ m ≤ 2147483647 ∧ IntSet b o cz tz neg m (V * 2 ^ s) w w' := by
  have hz0 : w.cell? ⟨b, o, none⟩ = some (.bool neg) := (cell_of_row w b o cz tz (0, 0) hz).trans z0
  have hz1 : w.cell? ⟨b, o + 1, none⟩ = some (.slice (some ⟨g, 0, none⟩) n c) := (cell_of_row w b (o + 1) cz tz (0, 0) hz).trans z1
  have hbl := (Array.getElem?_eq_some_iff.1 hz).1
  have hf : ∀ i, w.frozen? ⟨b, i, none⟩ = false := fun i => by simp [World.frozen?, hz]
  have HL := Lib.hid (lsh_some (some ⟨g, 0, none⟩) n c g 0 c n V s w.drew hg h0 hs0 (by omega) hcap hV hc)
  have HZ := Lib.hid hz; have HC := Lib.hid hc
  clear hz hc
  go_enter Tryz.func179, Tryz.ntmps179
  go_wp2_with fail
  go_region_law (first | (go_simp; go_at_call 201; refine HL.out.mono ?_; rintro e w2 ⟨m, g2, c2, hg2, hN, hc1, hc2, rfl, hb2, f, hr2, hf2⟩; have q0 : w2.cell? ⟨b, o, none⟩ = some (.bool neg) := (hb2.cell (p := ⟨b, o, none⟩) hbl).trans hz0; have q1 : w2.cell? ⟨b, o + 1, none⟩ = some (.slice (some ⟨g, 0, none⟩) n c) := (hb2.cell (p := ⟨b, o + 1, none⟩) hbl).trans hz1; have f2 : ∀ i, w2.frozen? ⟨b, i, none⟩ = false := (fun i => (hb2.frozen (p := ⟨b, i, none⟩) hbl).trans (hf i)); have HB2 := Lib.hid hb2; have HR2 := Lib.hid hr2; have HF2 := Lib.hid hf2; have HG2 := Lib.hid hg2; have HN := Lib.hid hN; clear hb2 hr2 hf2 hg2 hN))
  all_goals go_wp2
  all_goals go_ret
  all_goals (
    have hm0 : 0 < m := by
      rcases Nat.eq_zero_or_pos m with h | h
      · have h2 := HN.out.zero_iff.1 h
        have := Nat.mul_pos hVp (Nat.two_pow_pos s)
        omega
      · exact h
    exact ⟨rfl, m, HN.out, by omega, intSet_mk (w := w) (below_undrew HB2.out) HZ.out (.inr ⟨hm0, HN.out.1, g2, c2, f, rfl, Nat.le_of_eq (HG2.out.symm), hc1, by omega, HR2.out, HF2.out⟩)⟩)

theorem divW_one (gx px cx n V : Nat) (w : World) (h0 : 0 < n) (hn : n ≤ 2147483647) (hg : gx < w.heap.size)
    (hc : ∀ i, i < n → w.cell? ⟨gx, px + i, none⟩ = some (.int .u64 (wd V i))) :
    Calls Tryz.prog 228 #[.slice none 0 0, .slice (some ⟨gx, px, none⟩) n cx, .int .u64 1] w fun e w' => ∃ c, n ≤ c ∧ c ≤ n + 4 ∧ e = .returned (.tuple #[.slice (some ⟨w.heap.size, 0, none⟩) n c, .int .u64 0]) ∧ Below w.heap.size w w' ∧
      (∃ f, Row w' w.heap.size 228 c f ∧ ∀ i, i < n → f i = .int .u64 (wd V i)) := by
  have HS := Lib.hid (set_some gx px cx n V w h0 (by omega) hg hc)
  clear hc
  go_enter Tryz.func228, Tryz.ntmps228
  go_wp2_with fail
  refine HS.out.mono ?_
  rintro e w2 ⟨g, c, hg2, hc1, hc2, rfl, hb, hf⟩
  obtain rfl : g = w.heap.size := hg2
  have HB := Lib.hid hb; have HF := Lib.hid hf
  clear hb hf
  go_wp2
  exact bodyPost_ret (v := .tuple #[.slice (some ⟨w.heap.size, 0, none⟩) n c, .int .u64 0]) (by simp [results, Tryz.results228, go_sem]) rfl ⟨c, hc1, hc2, rfl, HB.out, HF.out⟩

theorem natDiv_one (gx px cx gy py cy n V : Nat) (w : World) (h0 : 0 < n) (hn : n ≤ 2147483647) (hg : gx < w.heap.size)
    (hc : ∀ i, i < n → w.cell? ⟨gx, px + i, none⟩ = some (.int .u64 (wd V i))) (hy : w.cell? ⟨gy, py, none⟩ = some (.int .u64 1)) :
    Calls Tryz.prog 203 #[.slice none 0 0, .pointer none, .slice none 0 0, .slice (some ⟨gx, px, none⟩) n cx, .slice (some ⟨gy, py, none⟩) 1 cy] w fun e w' => ∃ c, n ≤ c ∧ c ≤ n + 4 ∧ e = .returned (.tuple #[.slice (some ⟨w.heap.size, 0, none⟩) n c, .slice none 0 0]) ∧ Below w.heap.size w w' ∧
      (∃ f, Row w' w.heap.size 228 c f ∧ ∀ i, i < n → f i = .int .u64 (wd V i)) := by
  have HS := Lib.hid (divW_one gx px cx n V w h0 hn hg hc)
  clear hc
  go_enter Tryz.func203, Tryz.ntmps203
  go_wp2_with fail
  refine HS.out.mono ?_
  rintro e w2 ⟨c, hc1, hc2, rfl, hb, hf⟩
  have HB := Lib.hid hb; have HF := Lib.hid hf
  clear hb hf
  go_wp2_with fail
  refine (setWord_zero _ _ _ _).mono ?_
  rintro e w3 ⟨rfl, rfl⟩
  go_wp2
  go_ret2
  exact ⟨c, hc1, hc2, rfl, HB.out, HF.out⟩

theorem getStack_any (w : World) :
    Calls Tryz.prog 148 #[] w fun e w' => e = .returned (.pointer (some ⟨w.heap.size, 0, none⟩)) ∧ w' = w.alloc (.cells #[.pointer none] 249) := by
  go_enter Tryz.func148, Tryz.ntmps148
  go_wp2
  go_ret
  exact ⟨rfl, rfl⟩
theorem free_deferred (a : Addr) (u : FrameMode) (w : World) (hc : w.cell? a = some (.pointer none)) :
    CallsD Tryz.prog 149 #[.pointer (some a)] u w fun e u' w' => u' = u ∧ (e = .returned (.tuple #[]) ∧ w' = w) := by
  go_enter_d Tryz.func149, Tryz.ntmps149
  go_wp2
  go_end0
  exact ⟨rfl, rfl⟩


end Go.Proofs.YtgohhebffcldeaaGreatDoor
