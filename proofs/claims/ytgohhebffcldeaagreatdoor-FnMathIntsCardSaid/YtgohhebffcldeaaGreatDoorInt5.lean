/- Walks: *Int's Bytes; impl.number. -/
import Derived.Test.YtgohhebffcldeaaGreatDoorInt4
set_option linter.unusedVariables false
set_option linter.unusedSimpArgs false
namespace Go.Proofs.YtgohhebffcldeaaGreatDoor
open Go.RowKit
open Num

theorem u8Info : (Tryz.prog.info? 5).map (fun i => (i.zero, i.size, i.bytes)) = some (some (.int .u8 0), 1, 1) := by kernel_rfl
theorem bytesUnder : Tryz.prog.underlying 22 = some (.slice 5) := by kernel_rfl
theorem run_make_bytes (c : Nat) (hc : c ≤ 281474976710656) : ∀ W : World, (Instr.makeSlice 22 (.int .i64 (c : Int)) (.int .i64 (c : Int))).run Tryz.prog W =
    .ok (.slice (some ⟨W.heap.size, 0, none⟩) c c) (W.alloc (.cells (madeCells #[.int .u8 0] c) 5)) := by
  intro W
  obtain ⟨i0, hi, hzz⟩ := Option.map_eq_some_iff.1 u8Info
  simp only [Prod.mk.injEq] at hzz
  obtain ⟨hz0, hz1, hz2⟩ := hzz
  have h := run_make (P := Tryz.prog) W 22 5 i0 (.int .u8 0) bytesUnder hi hz0 .i64 .i64 (c : Int) (c : Int) (by omega) (by omega) (by rw [hz2]; omega) (by omega)
  simp only [Int.toNat_natCast, hz1, Nat.mul_one] at h
  exact h

theorem bytes_zero (a b : Option Addr) (c d : Nat) (w : World) :
    Calls Tryz.prog 160 #[.slice a 0 c, .slice b 0 d] w fun e w' => e = .returned (.int .i64 0) ∧ w = w' := by
  go_enter Tryz.func160, Tryz.ntmps160
  go_wp2_with fail
  refine wp_loop_rounds 1 ?_
  rw [rounds_succ]
  go_wp2_with fail
  refine wp_loop_rounds 1 ?_
  rw [rounds_succ]
  go_wp2
  go_ret
  exact ⟨rfl, rfl⟩

theorem Int_Bytes_any (b o n V : Nat) (neg : Bool) (w : World) (h : IntObj w b o neg n V) :
    Calls Tryz.prog 134 #[.pointer (some ⟨b, o, none⟩)] w fun e w' => ∃ s m, e = .returned s ∧ MagAt w' s m V ∧ (∀ a k c, s = .slice (some a) k c → w.heap.size ≤ a.block) ∧ m ≤ 8 * n ∧ Below w.heap.size w w' := by
  obtain ⟨ca, ta, s, hx, x0, x1, hN, hn, hs⟩ := h
  have hx1 : w.cell? ⟨b, o + 1, none⟩ = some s := (cell_of_row w b (o + 1) ca ta (0, 0) hx).trans x1
  have hbl := (Array.getElem?_eq_some_iff.1 hx).1
  clear hx x0 x1
  rcases hs with ⟨rfl, a, c, rfl⟩ | ⟨h0, g, p, c, rfl, hg, hc⟩
  · obtain rfl : V = 0 := hN.zero_iff.1 rfl
    have hmk : ∀ W : World, (Instr.makeSlice 22 (.int .i64 0) (.int .i64 0)).run Tryz.prog W = .ok (.slice (some ⟨W.heap.size, 0, none⟩) 0 0) (W.alloc (.cells (madeCells #[.int .u8 0] 0) 5)) := run_make_bytes 0 (by omega)
    clear hN
    have HB := Lib.hid (fun W => bytes_zero a (some ⟨w.heap.size, 0, none⟩) c 0 W)
    have HXA := Lib.hid (fun O => (World.cell?_of_block (w := w) (a := ⟨b, o + 1, none⟩) (Below.heap_alloc w O b hbl)).trans hx1)
    go_enter Tryz.func134, Tryz.ntmps134
    go_wp2_with fail
    refine (HB.out _).mono ?_
    rintro e w' ⟨rfl, rfl⟩
    go_wp2
    go_ret
    exact ⟨_, 0, rfl, ⟨⟨by simp, fun h => absurd h (by omega)⟩, .inl ⟨rfl, _, _, rfl⟩⟩, (fun a k c h => by injection h with h; injection h with h; subst h; exact Nat.le_refl _), by omega, (Below.refl _ _).alloc (Nat.le_refl _) _⟩
  · have hmk := run_make_bytes (8 * n) (by omega)
    have e8 : ((8 * n : Nat) : Int) = (n : Int) * 8 := by omega
    rw [e8] at hmk
    clear e8
    have HN := Lib.hid hN; clear hN
    have HC := Lib.hid hc; clear hc
    go_enter Tryz.func134, Tryz.ntmps134
    have hrow := Row.made w 5 (8 * n) (.int .u8 0)
    have hb1 : Below w.heap.size w (w.alloc (.cells (madeCells #[.int .u8 0] (8 * n)) 5)) := (Below.refl _ _).alloc (Nat.le_refl _) _
    have HB := Lib.hid (bytes_some w.heap.size (8 * n) g p c n V _ _ hrow (by omega) (Nat.lt_of_lt_of_le hg hb1.size) hn HN.out.1 (fun i hi => (hb1.cell (p := ⟨g, p + i, none⟩) hg).trans (HC.out i hi)))
    clear hrow
    go_wp2_with fail
    refine HB.out.mono ?_
    rintro e w' ⟨r, f', hr, hNb, rfl, hrow, hf, hch, hsz⟩
    have hb2 : Below w.heap.size w w' := Chg.below hb1 hb1.size hch (Nat.le_refl _)
    have HROW := Lib.hid hrow; clear hrow
    have HF := Lib.hid hf; clear hf
    have HNB := Lib.hid hNb; clear hNb
    have HCH := Lib.hid hch; clear hch
    clear hsz
    by_cases hr8 : 8 * n = r
    · go_wp2
      go_ret
      have hV0 : V = 0 := HNB.out.zero_iff.1 (by omega)
      exact ⟨_, 8 * n - r, rfl, ⟨HNB.out, .inl ⟨by omega, _, _, by first | rfl | (rw [show 8 * n - r = 0 by omega])⟩⟩, (fun a k c h => by injection h with h; injection h with h; subst h; exact Nat.le_refl _), by omega, hb2⟩
    · go_wp2
      go_ret
      exact ⟨_, 8 * n - r, rfl, ⟨HNB.out, .inr ⟨by omega, w.heap.size, r, 8 * n - r, rfl, Nat.le_refl _, HROW.out.lt, fun i hi => by
        rw [HROW.out.cell (by omega), HF.out _ (by omega), show 8 * n - 1 - (r + i) = 8 * n - r - 1 - i by omega]⟩⟩, (fun a k c h => by injection h with h; injection h with h; subst h; exact Nat.le_refl _), by omega, hb2⟩


theorem IntObj.cells {w : World} {b n V : Nat} {neg : Bool} {a : Option Addr} {c : Nat} {T : Nat} (h : w.heap[b]? = some (.cells #[.bool neg, .slice a n c] T (0, 0))) : w.cell? ⟨b, 0, none⟩ = some (.bool neg) ∧ w.cell? ⟨b, 1, none⟩ = some (.slice a n c) :=
  ⟨(cell_of_row w _ 0 _ _ (0, 0) h).trans rfl, (cell_of_row w _ 1 _ _ (0, 0) h).trans rfl⟩

theorem MagAt.shape {w : World} {s : Value} {n V : Nat} (h : MagAt w s n V) : ∃ a c, s = .slice a n c := by
  rcases h.2 with ⟨rfl, a, c, rfl⟩ | ⟨_, g, p, c, rfl, _⟩
  · exact ⟨a, c, rfl⟩
  · exact ⟨_, c, rfl⟩
theorem MagAt.far {w : World} {s : Value} {n V : Nat} (h : MagAt w s n V) {p : Addr} (hne : ∀ a k c, s = .slice (some a) k c → a.block ≠ p.block) (u : Value) : MagAt (w.setCell p u) s n V := by
  refine ⟨h.1, ?_⟩
  rcases h.2 with h2 | ⟨h0, g, o, c, rfl, hnc, hg, hc⟩
  · exact .inl h2
  · have hgp : g ≠ p.block := hne ⟨g, o, none⟩ n c rfl
    exact .inr ⟨h0, g, o, c, rfl, hnc, by simpa [World.setCell] using hg, fun i hi => (World.cell?_of_block (w := w) (a := ⟨g, o + i, none⟩) (Below.heap_setCell w p u g hgp)).trans (hc i hi)⟩
theorem set1 {w3 : World} {B T i : Nat} {cs : Array Value} {x : Value} (h : w3.heap[B]? = some (.cells cs T (0, 0))) : (w3.setCell ⟨B, i, none⟩ x).heap[B]? = some (.cells (cs.setIfInBounds i x) T (0, 0)) := by
  simp only [World.setCell, Array.getElem?_modify, if_true, h, Option.map_some]; rfl

theorem number_any (base : Nat) (v : Value) (neg : Bool) (V : Nat) (w : World) (h : IntIs w base v neg V) (hneg : neg = true → 0 < V) :
    Calls Tryz.prog 99 #[v] w fun e w' => ∃ s m, e = .returned (.agg #[.int .i64 2, .bool neg, s, .int .u64 0, .string ⟨#[]⟩, .slice none 0 0]) ∧ MagAt w' s m V ∧ m ≤ 134217728 ∧ (∀ a k c, s = .slice (some a) k c → w.heap.size ≤ a.block) ∧ Below w.heap.size w w' := by
  obtain ⟨z, p, rfl⟩ := h.shape
  have hb1 : Below w.heap.size w ((w.alloc (.cells #[.int .i64 z, .pointer p] 97)).alloc (.cells #[.int .i64 0, .bool false, .slice none 0 0, .int .u64 0, .string ⟨#[]⟩, .slice none 0 0] 26)) := ((Below.refl _ _).alloc (Nat.le_refl _) _).alloc (by simp) _
  have HB := Lib.hid (BigInt_any base _ neg V _ (h.below hb1) hneg)
  clear h
  go_enter Tryz.func99, Tryz.ntmps99
  go_wp2_with fail
  refine HB.out.mono ?_
  rintro e w2 ⟨b, n, a, c, rfl, hbb, hobj, hh, hb2⟩
  have hb3 : Below w.heap.size w w2 := hb1.trans (hb2.mono (by simp; omega))
  have hR : w2.heap[w.heap.size + 1]? = some (.cells #[.int .i64 0, .bool false, .slice none 0 0, .int .u64 0, .string ⟨#[]⟩, .slice none 0 0] 26 (0, 0)) := (hb2.block _ (by simp)).trans (by have := heap_alloc_new (w.alloc (.cells #[.int .i64 z, .pointer p] 97)) (.cells #[.int .i64 0, .bool false, .slice none 0 0, .int .u64 0, .string ⟨#[]⟩, .slice none 0 0] 26); simpa using this)
  obtain ⟨x0, x1⟩ := IntObj.cells (n := n) (V := V) hh
  have hsz2 : w.heap.size + 2 ≤ w2.heap.size := by have := hb2.size; simpa using this
  have hn24 : n ≤ 16777216 := by obtain ⟨_, _, _, _, _, _, _, h, _⟩ := hobj; exact h
  have hsg : ((if n = 0 then (0 : Int) else if neg then -1 else 1) < 0) = (neg = true) := by
    have hN : Nw n V := by obtain ⟨_, _, _, _, _, _, h, _⟩ := hobj; exact h
    by_cases hn : n = 0
    · have hV := hN.zero_iff.1 hn
      cases neg
      · simp [hn]
      · exact absurd (hneg rfl) (by omega)
    · cases neg <;> simp [hn]
  have HSN' := Sign_any b 0 n c a neg w2 x0 x1
  obtain ⟨sg, hsge⟩ : ∃ sg : Int, sg = (if n = 0 then (0 : Int) else if neg then -1 else 1) := ⟨_, rfl⟩
  rw [← hsge] at HSN' hsg
  have HSN := Lib.hid HSN'
  have hd : decide (sg < 0) = neg := by cases neg <;> simp [hsg] <;> simpa using hsg
  have HBY := Lib.hid (Int_Bytes_any b 0 n V neg w2 hobj)
  have HRR := Lib.hid hR
  clear hobj hh hb1 hb2 hR HSN' hsge hsg
  go_wp2_with fail
  refine HSN.out.mono ?_
  rintro e w3 ⟨rfl, rfl⟩
  go_wp2_with fail
  refine HBY.out.mono ?_
  rintro e w3 ⟨s, m, rfl, hmag, hnew, hm8, hb4⟩
  have hR3 := (hb4.block (w.heap.size + 1) (by omega)).trans HRR.out
  have hb5 : Below w.heap.size w w3 := hb3.trans (hb4.mono (by omega))
  obtain ⟨sa, sc, rfl⟩ := hmag.shape
  have c0 := (cell_of_row w3 _ 0 _ _ (0, 0) hR3).trans rfl
  have c1 := (cell_of_row w3 _ 1 _ _ (0, 0) hR3).trans rfl
  have c2 := (cell_of_row w3 _ 2 _ _ (0, 0) hR3).trans rfl
  have c3 := (cell_of_row w3 _ 3 _ _ (0, 0) hR3).trans rfl
  have c4 := (cell_of_row w3 _ 4 _ _ (0, 0) hR3).trans rfl
  have c5 := (cell_of_row w3 _ 5 _ _ (0, 0) hR3).trans rfl
  have f0 : ∀ i, w3.frozen? ⟨w.heap.size + 1, i, none⟩ = false := fun i => by simp [World.frozen?, hR3]
  have HM := Lib.hid hmag; clear hmag
  have HNEW := Lib.hid hnew; clear hnew
  have HR3 := Lib.hid hR3; clear hR3
  clear hb4
  go_wp2
  have hW := set1 (i := 5) (x := .slice none 0 0) (set1 (i := 4) (x := .string ⟨#[]⟩) (set1 (i := 3) (x := .int .u64 0) (set1 (i := 2) (x := .slice sa m sc) (set1 (i := 1) (x := .bool neg) (set1 (i := 0) (x := .int .i64 2) HR3.out)))))
  have e0 := (cell_of_row _ _ 0 _ _ (0, 0) hW).trans rfl
  have e1 := (cell_of_row _ _ 1 _ _ (0, 0) hW).trans rfl
  have e2 := (cell_of_row _ _ 2 _ _ (0, 0) hW).trans rfl
  have e3 := (cell_of_row _ _ 3 _ _ (0, 0) hW).trans rfl
  have e4 := (cell_of_row _ _ 4 _ _ (0, 0) hW).trans rfl
  have e5 := (cell_of_row _ _ 5 _ _ (0, 0) hW).trans rfl
  have hne : ∀ a k c, Value.slice sa m sc = .slice (some a) k c → a.block ≠ w.heap.size + 1 := fun a k c h => by have := HNEW.out a k c h; omega
  refine bodyPost_ret (v := .agg #[.int .i64 2, .bool neg, .slice sa m sc, .int .u64 0, .string ⟨#[]⟩, .slice none 0 0]) (by simp [results, Tryz.results99, go_sem, e0, e1, e2, e3, e4, e5]) rfl ⟨_, m, rfl, ?_, by omega, (fun a k c h => by have := HNEW.out a k c h; omega), ?_⟩
  · exact (((((HM.out.far hne _).far hne _).far hne _).far hne _).far hne _).far hne _
  · exact (((((hb5.setCell (by simp) _).setCell (by simp) _).setCell (by simp) _).setCell (by simp) _).setCell (by simp) _).setCell (by simp) _

end Go.Proofs.YtgohhebffcldeaaGreatDoor
