/- Walk: spec.IntVal; the bytes of a slice that came in. -/
import Derived.Test.YtgohhebffcldeaaGreatDoorSpec2
import Derived.Test.YtgohhebffcldeaaGreatDoorMem
set_option linter.unusedVariables false
set_option linter.unusedSimpArgs false
namespace Go.Proofs.YtgohhebffcldeaaGreatDoor
open Go.RowKit
open Num

theorem IntVal_any (neg : Bool) (s : Value) (n V : Nat) (w : World) (h : MagAt w s n V) (hn : n ≤ 1099511627776) :
    Calls Tryz.prog 5 #[.agg #[.bool neg, s]] w fun e w' => ∃ s', e = .returned (valInt neg s') ∧ NewMag w w' s' n V := by
  obtain ⟨sa, sc, rfl⟩ := h.shape
  have hb0 : Below w.heap.size w (((w.alloc (.cells #[.bool neg, .slice sa n sc] 29)).alloc (.cells #[.int .i64 0, .bool false, .slice none 0 0, .int .u64 0, .string ⟨#[]⟩, .slice none 0 0] 26)).alloc (.cells #[] 5)) := (((Below.refl _ _).alloc (Nat.le_refl _) _).alloc (by simp) _).alloc (by simp; omega) _
  have HM := Lib.hid h
  have HSRC := Lib.hid (show 0 < n → ∃ ad, sa = some ad ∧ ∀ j, j < n → (((w.alloc (.cells #[.bool neg, .slice sa n sc] 29)).alloc (.cells #[.int .i64 0, .bool false, .slice none 0 0, .int .u64 0, .string ⟨#[]⟩, .slice none 0 0] 26)).alloc (.cells #[] 5)).cell? (ad.add j) = some (.int .u8 (dg V (n - 1 - j))) from fun h0 => by
    rcases h.2 with ⟨h2, _⟩ | ⟨_, g, p, c, e, hnc, hg, hc⟩
    · omega
    · injection e with e _ _
      subst e
      exact ⟨_, rfl, fun j hj => by rw [add_at, hb0.cell (p := ⟨g, p + j, none⟩) hg]; exact hc j hj⟩)
  have HB := Lib.hid hb0
  have HQ0 := Lib.hid (heap3_1 w (.cells #[.bool neg, .slice sa n sc] 29) (.cells #[.int .i64 0, .bool false, .slice none 0 0, .int .u64 0, .string ⟨#[]⟩, .slice none 0 0] 26) (.cells #[] 5))
  have HQ1 := Lib.hid (heap3_0 w (.cells #[.bool neg, .slice sa n sc] 29) (.cells #[.int .i64 0, .bool false, .slice none 0 0, .int .u64 0, .string ⟨#[]⟩, .slice none 0 0] 26) (.cells #[] 5))
  clear h hb0
  go_enter Tryz.func5, Tryz.ntmps5
  go_wp2_with fail
  go_region_law (refine step_append_fresh rfl (.tmp 5) (.tmp 7) 22 rfl 5 (.int .u8 0) bytesUnder u8Info rfl ⟨w.heap.size + 2, 0, none⟩ (by simp [Act.eval, Act.put]) sa n sc (by simp [Act.eval, Act.put]) (fun j => .int .u8 (dg V (n - 1 - j))) (by omega) HSRC.out ?_; intro v' w' hfr; obtain ⟨a', c', rfl⟩ := hfr.out.shape; have q0 : Hid (w'.heap[w.heap.size + 1]? = some (.cells #[.int .i64 0, .bool false, .slice none 0 0, .int .u64 0, .string ⟨#[]⟩, .slice none 0 0] 26 (0, 0))) := (Lib.hid ((hfr.out.1.block _ (by simp <;> omega)).trans HQ0.out)); have f0 : ∀ i, w'.frozen? ⟨w.heap.size + 1, i, none⟩ = false := (fun i => by simp [World.frozen?, q0.out]); have c0 := (cell_of_row w' _ 0 _ _ (0, 0) q0.out).trans rfl; have c1 := (cell_of_row w' _ 1 _ _ (0, 0) q0.out).trans rfl; have c2 := (cell_of_row w' _ 2 _ _ (0, 0) q0.out).trans rfl; have c3 := (cell_of_row w' _ 3 _ _ (0, 0) q0.out).trans rfl; have c4 := (cell_of_row w' _ 4 _ _ (0, 0) q0.out).trans rfl; have c5 := (cell_of_row w' _ 5 _ _ (0, 0) q0.out).trans rfl; have p0 : Hid (w'.heap[w.heap.size]? = some (.cells #[.bool neg, .slice sa n sc] 29 (0, 0))) := (Lib.hid ((hfr.out.1.block _ (by simp <;> omega)).trans HQ1.out)); have d0 := (cell_of_row w' _ 0 _ _ (0, 0) p0.out).trans rfl; have d1 := (cell_of_row w' _ 1 _ _ (0, 0) p0.out).trans rfl)
  all_goals (
    go_wp2
    have hW := set1 (i := 5) (x := .slice none 0 0) (set1 (i := 4) (x := .string ⟨#[]⟩) (set1 (i := 3) (x := .int .u64 0) (set1 (i := 2) (x := .slice a' n c') (set1 (i := 1) (x := .bool neg) (set1 (i := 0) (x := .int .i64 2) q0.out)))))
    have e0 := (cell_of_row _ _ 0 _ _ (0, 0) hW).trans rfl
    have e1 := (cell_of_row _ _ 1 _ _ (0, 0) hW).trans rfl
    have e2 := (cell_of_row _ _ 2 _ _ (0, 0) hW).trans rfl
    have e3 := (cell_of_row _ _ 3 _ _ (0, 0) hW).trans rfl
    have e4 := (cell_of_row _ _ 4 _ _ (0, 0) hW).trans rfl
    have e5 := (cell_of_row _ _ 5 _ _ (0, 0) hW).trans rfl
    have hne : ∀ a k c, Value.slice a' n c' = .slice (some a) k c → 0 < n → a.block ≠ w.heap.size + 1 := fun a k c h h0 => by
      have := hfr.out.new a k c h h0; simp at this; omega
    refine bodyPost_ret (v := valInt neg (.slice a' n c')) (by simp [results, Tryz.results5, go_sem, e0, e1, e2, e3, e4, e5]) rfl ⟨_, rfl, ?_⟩
    exact ((((((hfr.out.mag (w0 := w) ⟨HB.out.os, HB.out.tape, HB.out.output, HB.out.size, HB.out.block⟩ HM.out.1 (fun i hi => rfl)).put (by omega) hne _).put (by omega) hne _).put (by omega) hne _).put (by omega) hne _).put (by omega) hne _).put (by omega) hne _)

/-- the bytes of a slice of integers that came in -/
theorem bytAt_of {w : World} {x : Addr} {len cap : Nat} {zs : List Int} (hl : len ≤ cap) (hz : zs.length = cap) (hc : ∀ i, i < zs.length → w.cell? (x.add i) = some (.int .u8 (zs.getD i 0))) (hw : ∀ n ∈ zs, (Lit.int .u8 n).wf = true) :
    ∃ V, BytAt w (.slice (some x) len cap) len V := by
  have hb : ∀ n ∈ zs, 0 ≤ n ∧ n ≤ 255 := fun n hn => by
    have := hw n hn
    simp [Lit.wf] at this
    exact this
  refine ⟨be ((zs.take len).map Int.toNat), ?_⟩
  have hll : ((zs.take len).map Int.toNat).length = len := by simp; omega
  have hlt : ∀ y ∈ (zs.take len).map Int.toNat, y < 256 := fun y hy => by
    obtain ⟨n, hn, rfl⟩ := List.mem_map.1 hy
    have := hb n (List.mem_of_mem_take hn)
    omega
  refine ⟨?_, ?_⟩
  · have := be_lt _ hlt
    rwa [hll] at this
  · by_cases h0 : len = 0
    · exact .inl ⟨h0, some x, cap, by rw [h0]⟩
    · have hc0 := hc 0 (by omega)
      have hsp : x.spot = none ∧ x.block < w.heap.size := by
        have e : x.add 0 = x := by simp [Addr.add]
        rw [e] at hc0
        unfold World.cell? at hc0
        split at hc0
        · rename_i h
          split at hc0
          · simp at hc0
          · rename_i hs
            exact ⟨by simpa using hs, (Array.getElem?_eq_some_iff.1 h).1⟩
        · simp at hc0
      obtain ⟨g, p, sp⟩ := x
      obtain ⟨rfl, hg⟩ : sp = none ∧ g < w.heap.size := hsp
      refine .inr ⟨by omega, g, p, cap, rfl, hl, hg, fun i hi => ?_⟩
      have hci := hc i (by omega)
      rw [add_at] at hci
      rw [hci]
      have hd := be_dg _ hlt i (by omega)
      rw [hll] at hd
      rw [hd]
      have hzi : zs[i]? = some zs[i] := List.getElem?_eq_getElem (by omega)
      have h2 := hb zs[i] (List.getElem_mem _)
      have e1 : zs.getD i 0 = zs[i] := by simp [List.getD, hzi]
      have e2 : ((zs.take len).map Int.toNat).getD i 0 = zs[i].toNat := by simp [List.getD, List.getElem?_take, hi, hzi]
      rw [e1, e2]
      congr 2
      omega

end Go.Proofs.YtgohhebffcldeaaGreatDoor
