/- Walks: laws.told, laws.whole, laws.is. -/
import Derived.Test.YtgohhebffcldeaaGreatDoorSpec
set_option linter.unusedVariables false
set_option linter.unusedSimpArgs false
namespace Go.Proofs.YtgohhebffcldeaaGreatDoor
open Go.RowKit
open Num

/-- the program's value of an integer -/
abbrev valInt (neg : Bool) (s : Value) : Value := .agg #[.int .i64 2, .bool neg, s, .int .u64 0, .string ⟨#[]⟩, .slice none 0 0]

theorem told_any (neg : Bool) (s : Value) (n V : Nat) (w : World) (h : MagAt w s n V) (hn : n ≤ 1099511627776) :
    Calls Tryz.prog 38 #[.agg #[.bool neg, s]] w fun e w' => ∃ s', e = .returned (valInt neg s') ∧ NewMag w w' s' n V := by
  obtain ⟨sa, sc, rfl⟩ := h.shape
  have hb0 : Below w.heap.size w (((w.alloc (.cells #[.bool neg, .slice sa n sc] 29)).alloc (.cells #[.int .i64 0, .bool false, .slice none 0 0, .int .u64 0, .string ⟨#[]⟩, .slice none 0 0] 26)).alloc (.cells #[] 5)) := (((Below.refl _ _).alloc (Nat.le_refl _) _).alloc (by simp) _).alloc (by simp; omega) _
  have HM := Lib.hid h
  have HSRC := Lib.hid (show 0 < n → ∃ ad, sa = some ad ∧ ∀ j, j < n → (((w.alloc (.cells #[.bool neg, .slice sa n sc] 29)).alloc (.cells #[.int .i64 0, .bool false, .slice none 0 0, .int .u64 0, .string ⟨#[]⟩, .slice none 0 0] 26)).alloc (.cells #[] 5)).cell? (ad.add j) = some (.int .u8 (dg V (n - 1 - j))) from fun h0 => by
    rcases h.2 with ⟨h2, _⟩ | ⟨_, g, p, c, e, hnc, hg, hc⟩
    · omega
    · injection e with e _ _
      subst e
      exact ⟨_, rfl, fun j hj => by rw [add_at, hb0.cell (p := ⟨g, p + j, none⟩) hg]; exact hc j hj⟩)
  have HB := Lib.hid hb0
  have HQ0 := Lib.hid (heap3_1 w (.cells #[.bool neg, .slice sa n sc] 29) (.cells #[.int .i64 0, .bool false, .slice none 0 0, .int .u64 0, .string ⟨#[]⟩, .slice none 0 0] 26) (.cells #[] 5))
  have HQ1 := Lib.hid (heap3_0 w (.cells #[.bool neg, .slice sa n sc] 29) (.cells #[.int .i64 0, .bool false, .slice none 0 0, .int .u64 0, .string ⟨#[]⟩, .slice none 0 0] 26) (.cells #[] 5))
  clear h hb0
  go_enter Tryz.func38, Tryz.ntmps38
  go_wp2_with fail
  go_region_law (refine step_append_fresh rfl (.tmp 5) (.tmp 7) 22 rfl 5 (.int .u8 0) bytesUnder u8Info rfl ⟨w.heap.size + 2, 0, none⟩ (by simp [Act.eval, Act.put]) sa n sc (by simp [Act.eval, Act.put]) (fun j => .int .u8 (dg V (n - 1 - j))) (by omega) HSRC.out ?_; intro v' w' hfr; obtain ⟨a', c', rfl⟩ := hfr.out.shape; have q0 : Hid (w'.heap[w.heap.size + 1]? = some (.cells #[.int .i64 0, .bool false, .slice none 0 0, .int .u64 0, .string ⟨#[]⟩, .slice none 0 0] 26 (0, 0))) := (Lib.hid ((hfr.out.1.block _ (by simp <;> omega)).trans HQ0.out)); have f0 : ∀ i, w'.frozen? ⟨w.heap.size + 1, i, none⟩ = false := (fun i => by simp [World.frozen?, q0.out]); have c0 := (cell_of_row w' _ 0 _ _ (0, 0) q0.out).trans rfl; have c1 := (cell_of_row w' _ 1 _ _ (0, 0) q0.out).trans rfl; have c2 := (cell_of_row w' _ 2 _ _ (0, 0) q0.out).trans rfl; have c3 := (cell_of_row w' _ 3 _ _ (0, 0) q0.out).trans rfl; have c4 := (cell_of_row w' _ 4 _ _ (0, 0) q0.out).trans rfl; have c5 := (cell_of_row w' _ 5 _ _ (0, 0) q0.out).trans rfl; have p0 : Hid (w'.heap[w.heap.size]? = some (.cells #[.bool neg, .slice sa n sc] 29 (0, 0))) := (Lib.hid ((hfr.out.1.block _ (by simp <;> omega)).trans HQ1.out)); have d0 := (cell_of_row w' _ 0 _ _ (0, 0) p0.out).trans rfl; have d1 := (cell_of_row w' _ 1 _ _ (0, 0) p0.out).trans rfl)
  all_goals (
    go_wp2
    have hW := set1 (i := 5) (x := .slice none 0 0) (set1 (i := 4) (x := .string ⟨#[]⟩) (set1 (i := 3) (x := .int .u64 0) (set1 (i := 2) (x := .slice a' n c') (set1 (i := 1) (x := .bool neg) (set1 (i := 0) (x := .int .i64 2) q0.out)))))
    have e0 := (cell_of_row _ _ 0 _ _ (0, 0) hW).trans rfl
    have e1 := (cell_of_row _ _ 1 _ _ (0, 0) hW).trans rfl
    have e2 := (cell_of_row _ _ 2 _ _ (0, 0) hW).trans rfl
    have e3 := (cell_of_row _ _ 3 _ _ (0, 0) hW).trans rfl
    have e4 := (cell_of_row _ _ 4 _ _ (0, 0) hW).trans rfl
    have e5 := (cell_of_row _ _ 5 _ _ (0, 0) hW).trans rfl
    have hne : ∀ a k c, Value.slice a' n c' = .slice (some a) k c → 0 < n → a.block ≠ w.heap.size + 1 := fun a k c h h0 => by
      have := hfr.out.new a k c h h0; simp at this; omega
    refine bodyPost_ret (v := valInt neg (.slice a' n c')) (by simp [results, Tryz.results38, go_sem, e0, e1, e2, e3, e4, e5]) rfl ⟨_, rfl, ?_⟩
    exact ((((((hfr.out.mag (w0 := w) ⟨HB.out.os, HB.out.tape, HB.out.output, HB.out.size, HB.out.block⟩ HM.out.1 (fun i hi => rfl)).put (by omega) hne _).put (by omega) hne _).put (by omega) hne _).put (by omega) hne _).put (by omega) hne _).put (by omega) hne _)

theorem dg_shift (V t j : Nat) : dg (V / 2 ^ (8 * t)) j = dg V (j + t) := by
  unfold dg
  rw [Nat.div_div_eq_div_mul, ← Nat.pow_add, show 8 * t + 8 * j = 8 * (j + t) by omega]
/-- the first k of n bytes -/
theorem BytAt.first {w : World} {s : Value} {n V k : Nat} (h : BytAt w s n V) (hk : k ≤ n) {a : Option Addr} {c : Nat} (hs : s = .slice a n c) : BytAt w (.slice a k c) k (V / 2 ^ (8 * (n - k))) := by
  refine ⟨?_, ?_⟩
  · rw [Nat.div_lt_iff_lt_mul (Nat.two_pow_pos _), ← Nat.pow_add, show 8 * k + 8 * (n - k) = 8 * n by omega]
    exact h.1
  · by_cases h0 : k = 0
    · exact .inl ⟨h0, a, c, by rw [h0]⟩
    · rcases h.2 with ⟨rfl, _⟩ | ⟨_, g, p, c', e, hnc, hg, hc⟩
      · omega
      · rw [hs] at e
        injection e with e1 _ e3
        subst e1 e3
        refine .inr ⟨by omega, g, p, c, rfl, by omega, hg, fun i hi => ?_⟩
        rw [hc i (by omega), dg_shift, show k - 1 - i + (n - k) = n - 1 - i by omega]
theorem BytAt.shape {w : World} {s : Value} {n V : Nat} (h : BytAt w s n V) : ∃ a c, s = .slice a n c ∧ n ≤ c ∨ ∃ a c, s = .slice a 0 c ∧ n = 0 := by
  rcases h.2 with ⟨rfl, a, c, rfl⟩ | ⟨_, g, p, c, rfl, hnc, _⟩
  · exact ⟨a, c, .inr ⟨a, c, rfl, rfl⟩⟩
  · exact ⟨_, c, .inl ⟨rfl, hnc⟩⟩
theorem BytAt.below {w w' : World} {s : Value} {n V : Nat} (h : BytAt w s n V) (hb : Below w.heap.size w w') : BytAt w' s n V := by
  refine ⟨h.1, ?_⟩
  rcases h.2 with h | ⟨h0, g, p, c, rfl, hnc, hg, hc⟩
  · exact .inl h
  · exact .inr ⟨h0, g, p, c, rfl, hnc, Nat.lt_of_lt_of_le hg hb.size, fun i hi => (hb.cell (p := ⟨g, p + i, none⟩) hg).trans (hc i hi)⟩

theorem lawWhole_any (an : Bool) (a : Option Addr) (n c V : Nat) (most : Nat) (w : World) (h : BytAt w (.slice a n c) n V) (hnc : n ≤ c) (hn : n ≤ 1099511627776) (hm : most ≤ 16777216) :
    Calls Tryz.prog 14 #[.bool an, .slice a n c, .int .i64 most] w fun e w' => ∃ V s s' m, e = .returned (.tuple #[.agg #[.bool (an && decide (0 < V)), s], valInt (an && decide (0 < V)) s']) ∧ m ≤ most ∧ MagAt w' s m V ∧ MagAt w' s' m V ∧ Below w.heap.size w w' := by
  obtain ⟨k, hk⟩ : ∃ k, k = Nat.min n most := ⟨_, rfl⟩
  have hkn : k ≤ n := by rw [hk]; exact Nat.min_le_left _ _
  have hkm : k ≤ most := by rw [hk]; exact Nat.min_le_right _ _
  have hki : min (n : Int) (most : Int) = (k : Int) := by
    rw [hk, show Nat.min n most = min n most from rfl]
    omega
  have hb0 : Below w.heap.size w ((w.alloc (.cells #[.bool false, .slice none 0 0] 29)).alloc (.cells #[.int .i64 0, .bool false, .slice none 0 0, .int .u64 0, .string ⟨#[]⟩, .slice none 0 0] 26)) := ((Below.refl _ _).alloc (Nat.le_refl _) _).alloc (by simp) _
  have HO := Lib.hid (Of_any an (.slice a k c) k _ _ ((h.first hkn rfl).below hb0) (by omega))
  clear h hk
  go_enter Tryz.func14, Tryz.ntmps14
  go_wp2_with fail
  refine HO.out.mono ?_
  rintro e w3 ⟨s1, m, rfl, hmk, hnew⟩
  obtain ⟨V', hV'⟩ : ∃ V', V' = V / 2 ^ (8 * (n - k)) := ⟨_, rfl⟩
  rw [← hV'] at hnew ⊢
  clear hV'
  obtain ⟨ng, hng⟩ : ∃ ng, ng = (an && decide (0 < V')) := ⟨_, rfl⟩
  rw [← hng]
  have hnew0 := hnew.from hb0
  obtain ⟨b1, c1, rfl⟩ := hnew.1.shape
  have R0 : w3.heap[w.heap.size]? = some (.cells #[.bool false, .slice none 0 0] 29 (0, 0)) := (hnew.2.2.block _ (by simp <;> omega)).trans (heap2_0 w _ _)
  have R1 : w3.heap[w.heap.size + 1]? = some (.cells #[.int .i64 0, .bool false, .slice none 0 0, .int .u64 0, .string ⟨#[]⟩, .slice none 0 0] 26 (0, 0)) := (hnew.2.2.block _ (by simp <;> omega)).trans (heap2_1 w _ _)
  have hsz3 : w.heap.size + 2 ≤ w3.heap.size := by have := hnew.2.2.size; simpa using this
  have hne0 : ∀ a k c, Value.slice b1 m c1 = .slice (some a) k c → 0 < m → w.heap.size + 2 ≤ a.block := fun a k c e h0 => by have := hnew.2.1 a k c e h0; simpa using this
  have HNEW := Lib.hid hnew0
  have HNG := Lib.hid hng
  have HNE := Lib.hid hne0
  have HR0 := Lib.hid R0
  have HR1 := Lib.hid R1
  have HB0 := Lib.hid hb0
  have hnew3 := hnew0.2.2.size
  clear hnew hnew0 R0 R1 hb0 hne0 HO hki hng
  go_wp2_with fail
  have HT := Lib.hid (told_any ng (.slice b1 m c1) m V' (w3.alloc (.cells #[.bool ng, .slice b1 m c1] 29)).drew (HNEW.out.1.below ((Below.refl _ _).alloc (Nat.le_refl _) _).drew) (by omega))
  have HQ0 := Lib.hid ((heap_alloc_old w3 (.cells #[.bool ng, .slice b1 m c1] 29) (show w.heap.size < w3.heap.size by omega)).trans HR0.out)
  have HQ1 := Lib.hid ((heap_alloc_old w3 (.cells #[.bool ng, .slice b1 m c1] 29) (show w.heap.size + 1 < w3.heap.size by omega)).trans HR1.out)
  have HQ2 := Lib.hid (heap_alloc_new w3 (.cells #[.bool ng, .slice b1 m c1] 29))
  have HBA := Lib.hid (HNEW.out.2.2.alloc hnew3 (.cells #[.bool ng, .slice b1 m c1] 29))
  have HB4 := Lib.hid (show Below w3.heap.size w3 (w3.alloc (.cells #[.bool ng, .slice b1 m c1] 29)) from (Below.refl _ _).alloc (Nat.le_refl _) _)
  generalize w3.alloc (.cells #[.bool ng, .slice b1 m c1] 29) = w4 at *
  have z0 := (cell_of_row w4 _ 0 _ _ (0, 0) HQ2.out).trans rfl
  have z1 := (cell_of_row w4 _ 1 _ _ (0, 0) HQ2.out).trans rfl
  go_region_law (first | (go_simp; go_at_call 38; refine HT.out.mono ?_; rintro e w5 ⟨s2, rfl, hn2⟩; obtain ⟨b2, c2, rfl⟩ := hn2.1.shape; have HN2 := Lib.hid hn2; have q0 := Lib.hid ((hn2.2.2.block _ (Array.getElem?_eq_some_iff.1 HQ0.out).1).trans HQ0.out); have q1 := Lib.hid ((hn2.2.2.block _ (Array.getElem?_eq_some_iff.1 HQ1.out).1).trans HQ1.out); have q2 := Lib.hid ((hn2.2.2.block _ (Array.getElem?_eq_some_iff.1 HQ2.out).1).trans HQ2.out); have f0 : ∀ i, w5.frozen? ⟨w.heap.size, i, none⟩ = false := (fun i => by simp [World.frozen?, q0.out]); have f1 : ∀ i, w5.frozen? ⟨w.heap.size + 1, i, none⟩ = false := (fun i => by simp [World.frozen?, q1.out]); have x0 := (cell_of_row w5 _ 0 _ _ (0, 0) q0.out).trans rfl; have x1 := (cell_of_row w5 _ 1 _ _ (0, 0) q0.out).trans rfl; have k0 := (cell_of_row w5 _ 0 _ _ (0, 0) q1.out).trans rfl; have k1 := (cell_of_row w5 _ 1 _ _ (0, 0) q1.out).trans rfl; have k2 := (cell_of_row w5 _ 2 _ _ (0, 0) q1.out).trans rfl; have k3 := (cell_of_row w5 _ 3 _ _ (0, 0) q1.out).trans rfl; have k4 := (cell_of_row w5 _ 4 _ _ (0, 0) q1.out).trans rfl; have k5 := (cell_of_row w5 _ 5 _ _ (0, 0) q1.out).trans rfl; have y0 := (cell_of_row w5 _ 0 _ _ (0, 0) q2.out).trans rfl; have y1 := (cell_of_row w5 _ 1 _ _ (0, 0) q2.out).trans rfl; clear hn2))
  all_goals (
    go_wp2
    have hW0 := set1 (i := 1) (x := .slice b1 m c1) (set1 (i := 0) (x := .bool ng) q0.out)
    have hne : w.heap.size + 1 ≠ w.heap.size := by omega
    have q1' := ((Below.heap_setCell _ (⟨w.heap.size, 1, none⟩ : Addr) (.slice b1 m c1) _ hne).trans ((Below.heap_setCell w5 (⟨w.heap.size, 0, none⟩ : Addr) (.bool ng) _ hne).trans q1.out))
    have hW1 := set1 (i := 5) (x := .slice none 0 0) (set1 (i := 4) (x := .string ⟨#[]⟩) (set1 (i := 3) (x := .int .u64 0) (set1 (i := 2) (x := .slice b2 m c2) (set1 (i := 1) (x := .bool ng) (set1 (i := 0) (x := .int .i64 2) q1')))))
    have hW0' := (((((((Below.heap_setCell _ (⟨w.heap.size + 1, 5, none⟩ : Addr) (.slice none 0 0) _ hne.symm).trans (Below.heap_setCell _ (⟨w.heap.size + 1, 4, none⟩ : Addr) (.string ⟨#[]⟩) _ hne.symm)).trans (Below.heap_setCell _ (⟨w.heap.size + 1, 3, none⟩ : Addr) (.int .u64 0) _ hne.symm)).trans (Below.heap_setCell _ (⟨w.heap.size + 1, 2, none⟩ : Addr) (.slice b2 m c2) _ hne.symm)).trans (Below.heap_setCell _ (⟨w.heap.size + 1, 1, none⟩ : Addr) (.bool ng) _ hne.symm)).trans (Below.heap_setCell _ (⟨w.heap.size + 1, 0, none⟩ : Addr) (.int .i64 2) _ hne.symm)).trans hW0)
    have e0 := (cell_of_row _ _ 0 _ _ (0, 0) hW1).trans rfl
    have e1 := (cell_of_row _ _ 1 _ _ (0, 0) hW1).trans rfl
    have e2 := (cell_of_row _ _ 2 _ _ (0, 0) hW1).trans rfl
    have e3 := (cell_of_row _ _ 3 _ _ (0, 0) hW1).trans rfl
    have e4 := (cell_of_row _ _ 4 _ _ (0, 0) hW1).trans rfl
    have e5 := (cell_of_row _ _ 5 _ _ (0, 0) hW1).trans rfl
    have g0 := (cell_of_row _ _ 0 _ _ (0, 0) hW0').trans rfl
    have g1 := (cell_of_row _ _ 1 _ _ (0, 0) hW0').trans rfl
    have hsz4 : w3.heap.size < w4.heap.size := (Array.getElem?_eq_some_iff.1 HQ2.out).1
    have hn1 : NewMag w w5 (.slice b1 m c1) m V' := ⟨(HNEW.out.1.below HB4.out).below (below_undrew HN2.out.2.2), HNEW.out.2.1, (HN2.out.from HBA.out.drew).2.2⟩
    have hn2 : NewMag w w5 (.slice b2 m c2) m V' := HN2.out.from HBA.out.drew
    have ha0 : ∀ a k c, Value.slice b1 m c1 = .slice (some a) k c → 0 < m → a.block ≠ w.heap.size := fun a k c e h0 => by have := HNE.out a k c e h0; omega
    have ha1 : ∀ a k c, Value.slice b1 m c1 = .slice (some a) k c → 0 < m → a.block ≠ w.heap.size + 1 := fun a k c e h0 => by have := HNE.out a k c e h0; omega
    have hb0 : ∀ a k c, Value.slice b2 m c2 = .slice (some a) k c → 0 < m → a.block ≠ w.heap.size := fun a k c e h0 => by have : w4.heap.size ≤ a.block := HN2.out.2.1 a k c e h0; omega
    have hb1 : ∀ a k c, Value.slice b2 m c2 = .slice (some a) k c → 0 < m → a.block ≠ w.heap.size + 1 := fun a k c e h0 => by have : w4.heap.size ≤ a.block := HN2.out.2.1 a k c e h0; omega
    have hz := Nat.le_refl w.heap.size
    have hz1 : w.heap.size ≤ w.heap.size + 1 := by omega
    have n1 := (((((((hn1.put (o := 0) hz ha0 (.bool ng)).put (o := 1) hz ha0 (.slice b1 m c1)).put (o := 0) hz1 ha1 (.int .i64 2)).put (o := 1) hz1 ha1 (.bool ng)).put (o := 2) hz1 ha1 (.slice b2 m c2)).put (o := 3) hz1 ha1 (.int .u64 0)).put (o := 4) hz1 ha1 (.string ⟨#[]⟩)).put (o := 5) hz1 ha1 (.slice none 0 0)
    have n2 := (((((((hn2.put (o := 0) hz hb0 (.bool ng)).put (o := 1) hz hb0 (.slice b1 m c1)).put (o := 0) hz1 hb1 (.int .i64 2)).put (o := 1) hz1 hb1 (.bool ng)).put (o := 2) hz1 hb1 (.slice b2 m c2)).put (o := 3) hz1 hb1 (.int .u64 0)).put (o := 4) hz1 hb1 (.string ⟨#[]⟩)).put (o := 5) hz1 hb1 (.slice none 0 0)
    refine bodyPost_ret (v := .tuple #[.agg #[.bool ng, .slice b1 m c1], valInt ng (.slice b2 m c2)]) (by simp [results, Tryz.results14, go_sem, e0, e1, e2, e3, e4, e5, g0, g1]) rfl ⟨V', _, _, m, ?_, by omega, n1.1, n2.1, n1.2.2⟩
    rw [← HNG.out])

end Go.Proofs.YtgohhebffcldeaaGreatDoor
