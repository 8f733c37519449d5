/- Walk: laws.FnNumberToInt. -/
import Derived.Test.YtalpkahhfjkeiaaGreatDoorNumF
set_option linter.unusedVariables false
set_option linter.unusedSimpArgs false
namespace Go.Proofs.YtalpkahhfjkeiaaGreatDoor
open Go.RowKit
open Num

theorem and_1 (x : Nat) (hx : x < 18446744073709551616) : bits .and .u64 (x : Int) 1 = ((x % 2 : Nat) : Int) := by
  have := bits_and_u64_nat x 1 hx (by decide)
  rw [show x &&& 1 = x % 2 from Nat.and_two_pow_sub_one_eq_mod x 1] at this
  exact this

theorem below_alloc (w : World) (O : Obj) : Below w.heap.size w (w.alloc O) := (Below.refl _ _).alloc (Nat.le_refl _) _

set_option maxRecDepth 100000 in
set_option maxHeartbeats 1000000 in
theorem law_any (an : Bool) (a : Option Addr) (n c V F : Nat) (text : ByteArray) (w : World) (h : BytAt w (.slice a n c) n V) (hnc : n ≤ c) (hn : n ≤ 2147483647) (ht : text.size ≤ 2147483647) (hF : F < 18446744073709551616) :
    Calls Tryz.prog 3 #[.bool an, .slice a n c, .int .u64 F, .string text] w fun e w' => e = .returned (.bool true) ∧ Below w.heap.size w w' := by
  have hWH := lawWhole_any an a n c V 400 w h hnc (by omega) (by omega)
  have HWH := Lib.hid hWH
  have hfb := run_frombits (F : Int)
  have ha1 := and_1 F hF
  have HFI := Lib.hid (fun W : World => Finite_any F hF W)
  have HST := Lib.hid (fun W : World => NumberToInt_string text W)
  have HBO := Lib.hid (fun W : World => NumberToInt_bool (F % 2) (by omega) W)
  clear h hWH
  go_enter Tryz.func3, Tryz.ntmps3
  go_wp2_with fail
  refine HWH.out.mono ?_
  rintro e w2 ⟨V', s, s', m, rfl, hm, hm1, hm2, hb2⟩
  obtain ⟨a1, c1, rfl⟩ := hm1.shape
  obtain ⟨a2, c2, rfl⟩ := hm2.shape
  obtain ⟨ng, hng⟩ : ∃ ng, ng = (an && decide (0 < V')) := ⟨_, rfl⟩
  have hneg : ng = true → 0 < V' := fun h => by rw [hng] at h; simp at h; exact h.2
  rw [← hng]
  have HB2 := Lib.hid hb2; have HM1 := Lib.hid hm1; have HM2 := Lib.hid hm2; have HNEG := Lib.hid hneg
  clear hng hneg hb2 hm1 hm2
  go_wp2_with fail
  obtain ⟨w3, hw3⟩ : ∃ w3, w3 = (w2.alloc (.cells #[.bool ng, .slice a1 m c1] 25)).alloc (.cells #[.int .i64 2, .bool ng, .slice a2 m c2, .int .u64 0, .string ⟨#[]⟩, .slice none 0 0] 28) := ⟨_, rfl⟩
  rw [← hw3]
  have hb3 : Below w2.heap.size w2 w3 := by rw [hw3]; exact ((Below.refl _ _).alloc (Nat.le_refl _) _).alloc (by simp) _
  have hq3 : w3.heap[w2.heap.size]? = some (.cells #[.bool ng, .slice a1 m c1] 25 (0, 0)) := by rw [hw3]; exact heap2_0 _ _ _
  have hl3 : w2.heap.size < w3.heap.size := (Array.getElem?_eq_some_iff.1 hq3).1
  refine (NumberToInt_int ng (.slice a2 m c2) m V' w3 (HM2.out.below hb3) (by omega) HNEG.out).mono ?_
  rintro e w4 ⟨s4, m4, rfl, hm4, hb4⟩
  obtain rfl : m4 = m := hm4.1.uniq HM1.out.1
  obtain ⟨a4, c4, rfl⟩ := hm4.shape
  have hb24 := hb3.trans (hb4.mono hb3.size)
  have hw4 := HB2.out.trans (hb24.mono HB2.out.size)
  have hq4 := (hb4.block _ hl3).trans hq3
  have hl4 : w2.heap.size < w4.heap.size := (Array.getElem?_eq_some_iff.1 hq4).1
  have HM14 := Lib.hid (HM1.out.below hb24)
  have HM4 := Lib.hid hm4; have HQ4 := Lib.hid hq4; have HW4 := Lib.hid hw4; have HL4 := Lib.hid hl4
  clear hw3 hb3 hq3 hl3 hm4 hb4 hb24 hq4 hw4 hl4
  have hIS := is_same ng (.slice a4 m4 c4) (.slice a1 m4 c1) m4 V' (w4.alloc (.cells #[.int .i64 2, .bool ng, .slice a4 m4 c4, .int .u64 0, .string ⟨#[]⟩, .slice none 0 0] 28)) (HM4.out.below (below_alloc _ _)) (HM14.out.below (below_alloc _ _)) (by omega)
  have HIS := Lib.hid hIS
  have hq5 := ((below_alloc w4 (.cells #[.int .i64 2, .bool ng, .slice a4 m4 c4, .int .u64 0, .string ⟨#[]⟩, .slice none 0 0] 28)).block _ HL4.out).trans HQ4.out
  have x0 := (cell_of_row _ _ 0 _ _ (0, 0) hq5).trans rfl
  have x1 := (cell_of_row _ _ 1 _ _ (0, 0) hq5).trans rfl
  have hl4' := HL4.out
  have HW5 := Lib.hid (HW4.out.trans ((below_alloc w4 (.cells #[.int .i64 2, .bool ng, .slice a4 m4 c4, .int .u64 0, .string ⟨#[]⟩, .slice none 0 0] 28)).mono HW4.out.size))
  clear hIS hq5
  go_wp2_with fail
  refine HIS.out.mono ?_
  rintro e w6 ⟨rfl, hb6⟩
  have HW6 := Lib.hid (HW5.out.trans (hb6.mono HW5.out.size))
  clear hb6 x0 x1 hl4'
  go_wp2_with fail
  refine (HFI.out _).mono ?_
  rintro e w6' ⟨rfl, rfl⟩
  by_cases hf : fexp F = 2047
  · have hd : decide (fexp F ≠ 2047) = false := by simp [hf]
    rw [hd]
    clear hd hf
    go_wp2_with fail
    refine (HST.out _).mono ?_
    rintro e wa ⟨rfl, hba⟩
    have HWA := Lib.hid (HW6.out.trans (hba.mono HW6.out.size))
    clear hba
    go_wp2_with fail
    have hbb := below_alloc wa (.cells #[.int .i64 0, .bool false, .slice none 0 0, .int .u64 0, .string ⟨#[]⟩, .slice none 0 0] 28)
    have HWB := Lib.hid (HWA.out.trans (hbb.mono HWA.out.size))
    clear hbb
    refine (HBO.out _).mono ?_
    rintro e wb ⟨rfl, hbc⟩
    have HWC := Lib.hid (HWB.out.trans (hbc.mono HWB.out.size))
    clear hbc
    go_wp2
    go_ret
    exact ⟨rfl, HWC.out.trans ((below_alloc wb _).mono HWC.out.size)⟩
  · have hd : decide (fexp F ≠ 2047) = true := by simp [hf]
    rw [hd]
    have HWL := Lib.hid (fun W : World => Whole_any F hF hf W)
    have HNF := Lib.hid (fun W : World => NumberToInt_float F hF hf W)
    clear hd hf
    go_wp2_with fail
    refine (HWL.out _).mono ?_
    rintro e w7 ⟨s7, m7, b7, rfl, hm7, hmag7, hb7⟩
    obtain ⟨a7, c7, rfl⟩ := hmag7.shape
    obtain ⟨nf, hnf⟩ : ∃ nf, nf = (fneg F && decide (0 < fwhole F)) := ⟨_, rfl⟩
    rw [← hnf] at HNF ⊢
    have HW7 := Lib.hid (HW6.out.trans (hb7.mono HW6.out.size))
    have HM7 := Lib.hid hmag7
    clear hnf hb7 hmag7
    go_wp2_with fail
    obtain ⟨w8, hw8⟩ : ∃ w8, w8 = w7.alloc (.cells #[.bool nf, .slice a7 m7 c7] 25) := ⟨_, rfl⟩
    rw [← hw8]
    have hb8 : Below w7.heap.size w7 w8 := by rw [hw8]; exact below_alloc _ _
    have hq8 : w8.heap[w7.heap.size]? = some (.cells #[.bool nf, .slice a7 m7 c7] 25 (0, 0)) := by rw [hw8]; exact heap_alloc_new _ _
    have hl8 : w7.heap.size < w8.heap.size := (Array.getElem?_eq_some_iff.1 hq8).1
    refine (HNF.out w8).mono ?_
    rintro e w9 ⟨s9, m9, rfl, hm9, hb9⟩
    obtain rfl : m9 = m7 := hm9.1.uniq HM7.out.1
    obtain ⟨a9, c9, rfl⟩ := hm9.shape
    have hb79 := hb8.trans (hb9.mono hb8.size)
    have hq9 := (hb9.block _ hl8).trans hq8
    have hl9 : w7.heap.size < w9.heap.size := (Array.getElem?_eq_some_iff.1 hq9).1
    have HW9 := Lib.hid (HW7.out.trans (hb79.mono HW7.out.size))
    have HM79 := Lib.hid (HM7.out.below hb79)
    have hIS9 := is_same nf (.slice a9 m9 c9) (.slice a7 m9 c7) m9 (fwhole F) (w9.alloc (.cells #[.int .i64 2, .bool nf, .slice a9 m9 c9, .int .u64 0, .string ⟨#[]⟩, .slice none 0 0] 28)) (hm9.below (below_alloc _ _)) (HM79.out.below (below_alloc _ _)) (by omega)
    have HIS9 := Lib.hid hIS9
    have hqA := ((below_alloc w9 (.cells #[.int .i64 2, .bool nf, .slice a9 m9 c9, .int .u64 0, .string ⟨#[]⟩, .slice none 0 0] 28)).block _ hl9).trans hq9
    have x0 := (cell_of_row _ _ 0 _ _ (0, 0) hqA).trans rfl
    have x1 := (cell_of_row _ _ 1 _ _ (0, 0) hqA).trans rfl
    have HWX := Lib.hid (HW9.out.trans ((below_alloc w9 (.cells #[.int .i64 2, .bool nf, .slice a9 m9 c9, .int .u64 0, .string ⟨#[]⟩, .slice none 0 0] 28)).mono HW9.out.size))
    clear hw8 hb8 hq8 hl8 hm9 hb9 hb79 hq9 hIS9 hqA
    go_wp2_with fail
    refine HIS9.out.mono ?_
    rintro e wy ⟨rfl, hby⟩
    have HWY := Lib.hid (HWX.out.trans (hby.mono HWX.out.size))
    clear hby x0 x1 hl9
    go_wp2_with fail
    refine (HST.out _).mono ?_
    rintro e wa ⟨rfl, hba⟩
    have HWA := Lib.hid (HWY.out.trans (hba.mono HWY.out.size))
    clear hba
    go_wp2_with fail
    have hbb := below_alloc wa (.cells #[.int .i64 0, .bool false, .slice none 0 0, .int .u64 0, .string ⟨#[]⟩, .slice none 0 0] 28)
    have HWB := Lib.hid (HWA.out.trans (hbb.mono HWA.out.size))
    clear hbb
    refine (HBO.out _).mono ?_
    rintro e wb ⟨rfl, hbc⟩
    have HWC := Lib.hid (HWB.out.trans (hbc.mono HWB.out.size))
    clear hbc
    go_wp2
    go_ret
    exact ⟨rfl, HWC.out.trans ((below_alloc wb _).mono HWC.out.size)⟩

theorem law_long (an : Bool) (a : Option Addr) (n c F : Nat) (text : ByteArray) (w : World) (h : 2147483647 < n ∨ (n ≤ 2147483647 ∧ 2147483647 < text.size)) :
    Calls Tryz.prog 3 #[.bool an, .slice a n c, .int .u64 F, .string text] w fun e w' => e = .returned (.bool true) ∧ Below w.heap.size w w' := by
  rcases h with h | ⟨h1, h⟩
  all_goals (
    go_enter Tryz.func3, Tryz.ntmps3
    go_wp2
    go_ret
    exact ⟨rfl, Below.refl _ _⟩)

/-- the bytes of a slice of integers that came in -/
theorem bytAt_of {w : World} {x : Addr} {len cap : Nat} {zs : List Int} (hl : len ≤ cap) (hz : zs.length = cap) (hc : ∀ i, i < zs.length → w.cell? (x.add i) = some (.int .u8 (zs.getD i 0))) (hw : ∀ n ∈ zs, (Lit.int .u8 n).wf = true) :
    ∃ V, BytAt w (.slice (some x) len cap) len V := by
  have hb : ∀ n ∈ zs, 0 ≤ n ∧ n ≤ 255 := fun n hn => by
    have := hw n hn
    simp [Lit.wf] at this
    exact this
  refine ⟨be ((zs.take len).map Int.toNat), ?_⟩
  have hll : ((zs.take len).map Int.toNat).length = len := by simp; omega
  have hlt : ∀ y ∈ (zs.take len).map Int.toNat, y < 256 := fun y hy => by
    obtain ⟨n, hn, rfl⟩ := List.mem_map.1 hy
    have := hb n (List.mem_of_mem_take hn)
    omega
  refine ⟨?_, ?_⟩
  · have := be_lt _ hlt
    rwa [hll] at this
  · by_cases h0 : len = 0
    · exact .inl ⟨h0, some x, cap, by rw [h0]⟩
    · have hc0 := hc 0 (by omega)
      have hsp : x.spot = none ∧ x.block < w.heap.size := by
        have e : x.add 0 = x := by simp [Addr.add]
        rw [e] at hc0
        unfold World.cell? at hc0
        split at hc0
        · rename_i h
          split at hc0
          · simp at hc0
          · rename_i hs
            exact ⟨by simpa using hs, (Array.getElem?_eq_some_iff.1 h).1⟩
        · simp at hc0
      obtain ⟨g, p, sp⟩ := x
      obtain ⟨rfl, hg⟩ : sp = none ∧ g < w.heap.size := hsp
      refine .inr ⟨by omega, g, p, cap, rfl, hl, hg, fun i hi => ?_⟩
      have hci := hc i (by omega)
      rw [add_at] at hci
      rw [hci]
      have hd := be_dg _ hlt i (by omega)
      rw [hll] at hd
      rw [hd]
      have hzi : zs[i]? = some zs[i] := List.getElem?_eq_getElem (by omega)
      have h2 := hb zs[i] (List.getElem_mem _)
      have e1 : zs.getD i 0 = zs[i] := by simp [List.getD, hzi]
      have e2 : ((zs.take len).map Int.toNat).getD i 0 = zs[i].toNat := by simp [List.getD, List.getElem?_take, hi, hzi]
      rw [e1, e2]
      congr 2
      omega

end Go.Proofs.YtalpkahhfjkeiaaGreatDoor
