/- Walk: laws.FnCompareNumbers. -/
import Derived.Test.YtgohhebffcldeaaGreatDoorSpecP
import Derived.Test.YtgohhebffcldeaaGreatDoorSpec2
set_option linter.unusedVariables false
set_option linter.unusedSimpArgs false
namespace Go.Proofs.YtgohhebffcldeaaGreatDoor
open Go.RowKit
open Num

theorem op_any (op : Int) : ∃ k : Nat, 13 ≤ k ∧ k ≤ 18 ∧ wrap64 ((wrap64 (op.tmod 6 + 6)).tmod 6 + 13) = (k : Int) := by
  have h1 : op.tmod 6 < 6 := Int.tmod_lt_of_pos op (by decide)
  have h2 : -6 < op.tmod 6 := Int.lt_tmod_of_pos op (by decide)
  obtain ⟨x, hx⟩ : ∃ x, x = op.tmod 6 := ⟨_, rfl⟩
  rw [← hx] at h1 h2 ⊢
  rw [IntWalk.wrap64_in (x + 6) (by omega), Int.tmod_eq_emod_of_nonneg (by omega), IntWalk.wrap64_in _ (by omega)]
  exact ⟨((x + 6) % 6 + 13).toNat, by omega, by omega, by omega⟩

theorem words_few {V m : Nat} (h : V < 2 ^ (8 * m)) (hm : m ≤ 150) (n : Nat) (hn : Nw n V) : n ≤ 1048576 := by
  rcases Nat.eq_zero_or_pos n with h0 | h0
  · omega
  · have h1 := hn.2 h0
    rcases Nat.lt_or_ge 1048576 n with h2 | h2
    · have h3 : 2 ^ (8 * m) ≤ 2 ^ (64 * (n - 1)) := Nat.pow_le_pow_right (by omega) (by omega)
      omega
    · exact h2

set_option maxRecDepth 100000 in
set_option maxHeartbeats 1000000 in
theorem fcn_any (op : Int) (hop : -9223372036854775808 ≤ op ∧ op ≤ 9223372036854775807) (an : Bool) (a : Option Addr) (n c V F : Nat) (w : World) (h : BytAt w (.slice a n c) n V) (hnc : n ≤ c) (hn : n ≤ 2147483647) (hF : F < 18446744073709551616) (hk : KT w) (hcl : CL w) :
    Calls Tryz.prog 4 #[.int .i64 op, .bool an, .slice a n c, .int .u64 F] w fun e w' => e = .returned (.bool true) ∧ Below w.heap.size w w' := by
  have HWH := Lib.hid (lawWhole_any an a n c V 150 w h hnc (by omega) (by omega))
  have HK := Lib.hid hk; have HCL := Lib.hid hcl
  clear h hk hcl
  obtain ⟨k, hk1, hk2, hk⟩ := op_any op
  have HKK := Lib.hid hk; clear hk
  go_enter Tryz.func4, Tryz.ntmps4
  go_wp2_with fail
  rw [HKK.out]
  refine HWH.out.mono ?_
  rintro e w2 ⟨V', s, s', m, rfl, hm, hm1, hm2, hb2⟩
  obtain ⟨a1, c1, rfl⟩ := hm1.shape
  obtain ⟨a2, c2, rfl⟩ := hm2.shape
  obtain ⟨ng, hng⟩ : ∃ ng, ng = (an && decide (0 < V')) := ⟨_, rfl⟩
  have hneg : ng = true → 0 < V' := fun h => by rw [hng] at h; simp at h; exact h.2
  rw [← hng]
  have hw := words_few hm1.1.1 hm
  obtain ⟨w3, hw3⟩ : ∃ w3, w3 = ((w2.alloc (.cells #[.bool ng, .slice a1 m c1] 29)).alloc (.cells #[.int .i64 2, .bool ng, .slice a2 m c2, .int .u64 0, .string ⟨#[]⟩, .slice none 0 0] 26)).alloc (.cells #[.int .i64 3, .bool false, .slice none 0 0, .int .u64 F, .string ⟨#[]⟩, .slice none 0 0] 26) := ⟨_, rfl⟩
  have hb3 : Below w2.heap.size w2 w3 := by rw [hw3]; exact (((Below.refl _ _).alloc (Nat.le_refl _) _).alloc (by simp) _).alloc (by simp; omega) _
  have r1 : w3.heap[w2.heap.size + 1]? = some (.cells #[.int .i64 2, .bool ng, .slice a2 m c2, .int .u64 0, .string ⟨#[]⟩, .slice none 0 0] 26 (0, 0)) := by rw [hw3]; exact heap3_1 _ _ _ _
  have r2 : w3.heap[w2.heap.size + 1 + 1]? = some (.cells #[.int .i64 3, .bool false, .slice none 0 0, .int .u64 F, .string ⟨#[]⟩, .slice none 0 0] 26 (0, 0)) := by
    rw [hw3]
    have h := heap_alloc_new ((w2.alloc (.cells #[.bool ng, .slice a1 m c1] 29)).alloc (.cells #[.int .i64 2, .bool ng, .slice a2 m c2, .int .u64 0, .string ⟨#[]⟩, .slice none 0 0] 26)) (.cells #[.int .i64 3, .bool false, .slice none 0 0, .int .u64 F, .string ⟨#[]⟩, .slice none 0 0] 26)
    rw [World.size_alloc, World.size_alloc] at h
    exact h
  have l1 := (Array.getElem?_eq_some_iff.1 r1).1
  have l2 := (Array.getElem?_eq_some_iff.1 r2).1
  have HP := Lib.hid (fun (W : World) (hb : Below w3.heap.size w3 W) => (show W.cell? ⟨w2.heap.size + 1, 0, none⟩ = some (.int .i64 2) ∧ W.cell? ⟨w2.heap.size + 1, 1, none⟩ = some (.bool ng) ∧ W.cell? ⟨w2.heap.size + 1, 2, none⟩ = some (.slice a2 m c2) ∧ W.cell? ⟨w2.heap.size + 1, 3, none⟩ = some (.int .u64 0) ∧ W.cell? ⟨w2.heap.size + 1, 4, none⟩ = some (.string ⟨#[]⟩) ∧ W.cell? ⟨w2.heap.size + 1, 5, none⟩ = some (.slice none 0 0) ∧ W.cell? ⟨w2.heap.size + 1 + 1, 0, none⟩ = some (.int .i64 3) ∧ W.cell? ⟨w2.heap.size + 1 + 1, 1, none⟩ = some (.bool false) ∧ W.cell? ⟨w2.heap.size + 1 + 1, 2, none⟩ = some (.slice none 0 0) ∧ W.cell? ⟨w2.heap.size + 1 + 1, 3, none⟩ = some (.int .u64 F) ∧ W.cell? ⟨w2.heap.size + 1 + 1, 4, none⟩ = some (.string ⟨#[]⟩) ∧ W.cell? ⟨w2.heap.size + 1 + 1, 5, none⟩ = some (.slice none 0 0) from ⟨(cell_of_row W _ 0 _ _ (0, 0) ((hb.block _ l1).trans r1)).trans rfl, (cell_of_row W _ 1 _ _ (0, 0) ((hb.block _ l1).trans r1)).trans rfl, (cell_of_row W _ 2 _ _ (0, 0) ((hb.block _ l1).trans r1)).trans rfl, (cell_of_row W _ 3 _ _ (0, 0) ((hb.block _ l1).trans r1)).trans rfl, (cell_of_row W _ 4 _ _ (0, 0) ((hb.block _ l1).trans r1)).trans rfl, (cell_of_row W _ 5 _ _ (0, 0) ((hb.block _ l1).trans r1)).trans rfl, (cell_of_row W _ 0 _ _ (0, 0) ((hb.block _ l2).trans r2)).trans rfl, (cell_of_row W _ 1 _ _ (0, 0) ((hb.block _ l2).trans r2)).trans rfl, (cell_of_row W _ 2 _ _ (0, 0) ((hb.block _ l2).trans r2)).trans rfl, (cell_of_row W _ 3 _ _ (0, 0) ((hb.block _ l2).trans r2)).trans rfl, (cell_of_row W _ 4 _ _ (0, 0) ((hb.block _ l2).trans r2)).trans rfl, (cell_of_row W _ 5 _ _ (0, 0) ((hb.block _ l2).trans r2)).trans rfl⟩))
  have hb23 : Below w.heap.size w w3 := hb2.trans (hb3.mono hb2.size)
  have HI1 := Lib.hid (fun (W : World) (hb : Below w3.heap.size w3 W) => implCompare_if k hk1 hk2 ng (.slice a2 m c2) m V' F hF W ((hm2.below hb3).below hb) (by omega) hneg hw (HK.out.below (hb23.trans (hb.mono hb23.size))) (HCL.out.below (hb23.trans (hb.mono hb23.size))))
  have HI2 := Lib.hid (fun (W : World) (hb : Below w3.heap.size w3 W) => implCompare_fi k hk1 hk2 ng (.slice a2 m c2) m V' F hF W ((hm2.below hb3).below hb) (by omega) hneg hw (HK.out.below (hb23.trans (hb.mono hb23.size))) (HCL.out.below (hb23.trans (hb.mono hb23.size))))
  have HS1 := Lib.hid (fun (W : World) (hb : Below w3.heap.size w3 W) => Compare_if_spec k hk1 hk2 ng (.slice a2 m c2) m V' F W ((hm2.below hb3).below hb) (by omega) hneg hF)
  have HS2 := Lib.hid (fun (W : World) (hb : Below w3.heap.size w3 W) => Compare_fi_spec k hk1 hk2 ng (.slice a2 m c2) m V' F W ((hm2.below hb3).below hb) (by omega) hneg hF)
  obtain ⟨o1, ho1⟩ : ∃ o1, o1 = opHolds k (fcAll (sI ng V') F) := ⟨_, rfl⟩
  obtain ⟨o2, ho2⟩ : ∃ o2, o2 = opHolds k (-(fcAll (sI ng V') F)) := ⟨_, rfl⟩
  rw [← ho1] at HI1 HS1
  rw [← ho2] at HI2 HS2
  have HB3 := Lib.hid hb23; have HW3 := Lib.hid hw3
  clear hng hneg hb2 hm1 hm2 hw hw3 hb3 r1 r2 l1 l2 hb23 ho1 ho2 HKK HK HCL
  obtain ⟨x0, x1, x2, x3, x4, x5, x6, x7, x8, x9, x10, x11⟩ := HP.out w3 (Below.refl _ _)
  go_wp2_with fail
  rw [← HW3.out]
  go_wp2_with fail
  refine (HI1.out _ (Below.refl _ _)).mono ?_
  rintro e w4 ⟨rfl, hb4⟩
  have HB4 := Lib.hid hb4
  obtain ⟨y0, y1, y2, y3, y4, y5, y6, y7, y8, y9, y10, y11⟩ := HP.out w4 hb4
  clear hb4
  go_wp2_with fail
  refine (HI2.out _ HB4.out).mono ?_
  rintro e w5 ⟨rfl, hb5⟩
  have hb5u := HB4.out.trans (hb5.mono HB4.out.size)
  have HB5 := Lib.hid hb5u
  obtain ⟨z0, z1, z2, z3, z4, z5, z6, z7, z8, z9, z10, z11⟩ := HP.out w5 hb5u
  clear hb5 hb5u
  go_wp2_with fail
  refine (HS1.out _ HB5.out).mono ?_
  rintro e w6 ⟨rfl, hb6⟩
  have hb6u := HB5.out.trans (hb6.mono HB5.out.size)
  have HB6 := Lib.hid hb6u
  obtain ⟨q0, q1, q2, q3, q4, q5, q6, q7, q8, q9, q10, q11⟩ := HP.out w6 hb6u
  clear hb6 hb6u
  go_wp2_with fail
  refine (HS2.out _ HB6.out).mono ?_
  rintro e w7 ⟨rfl, hb7⟩
  have HB7 := Lib.hid (HB6.out.trans (hb7.mono HB6.out.size))
  clear hb7
  go_wp2
  go_ret
  exact ⟨by simp, HB3.out.trans (HB7.out.mono HB3.out.size)⟩

theorem fcn_long (op : Int) (an : Bool) (a : Option Addr) (n c F : Nat) (w : World) (h : 2147483647 < n) :
    Calls Tryz.prog 4 #[.int .i64 op, .bool an, .slice a n c, .int .u64 F] w fun e w' => e = .returned (.bool true) ∧ Below w.heap.size w w' := by
  go_enter Tryz.func4, Tryz.ntmps4
  go_wp2
  go_ret
  exact ⟨rfl, Below.refl _ _⟩

/-- the bytes of a slice of integers that came in -/
theorem bytAt_in {w : World} {x : Addr} {len cap : Nat} {zs : List Int} (hl : len ≤ cap) (hz : zs.length = cap) (hc : ∀ i, i < zs.length → w.cell? (x.add i) = some (.int .u8 (zs.getD i 0))) (hw : ∀ n ∈ zs, (Lit.int .u8 n).wf = true) :
    ∃ V, BytAt w (.slice (some x) len cap) len V := by
  have hb : ∀ n ∈ zs, 0 ≤ n ∧ n ≤ 255 := fun n hn => by
    have := hw n hn
    simp [Lit.wf] at this
    exact this
  refine ⟨be ((zs.take len).map Int.toNat), ?_⟩
  have hll : ((zs.take len).map Int.toNat).length = len := by simp; omega
  have hlt : ∀ y ∈ (zs.take len).map Int.toNat, y < 256 := fun y hy => by
    obtain ⟨n, hn, rfl⟩ := List.mem_map.1 hy
    have := hb n (List.mem_of_mem_take hn)
    omega
  refine ⟨?_, ?_⟩
  · have := be_lt _ hlt
    rwa [hll] at this
  · by_cases h0 : len = 0
    · exact .inl ⟨h0, some x, cap, by rw [h0]⟩
    · have hc0 := hc 0 (by omega)
      have hsp : x.spot = none ∧ x.block < w.heap.size := by
        have e : x.add 0 = x := by simp [Addr.add]
        rw [e] at hc0
        unfold World.cell? at hc0
        split at hc0
        · rename_i h
          split at hc0
          · simp at hc0
          · rename_i hs
            exact ⟨by simpa using hs, (Array.getElem?_eq_some_iff.1 h).1⟩
        · simp at hc0
      obtain ⟨g, p, sp⟩ := x
      obtain ⟨rfl, hg⟩ : sp = none ∧ g < w.heap.size := hsp
      refine .inr ⟨by omega, g, p, cap, rfl, hl, hg, fun i hi => ?_⟩
      have hci := hc i (by omega)
      rw [add_at] at hci
      rw [hci]
      have hd := be_dg _ hlt i (by omega)
      rw [hll] at hd
      rw [hd]
      have hzi : zs[i]? = some zs[i] := List.getElem?_eq_getElem (by omega)
      have h2 := hb zs[i] (List.getElem_mem _)
      have e1 : zs.getD i 0 = zs[i] := by simp [List.getD, hzi]
      have e2 : ((zs.take len).map Int.toNat).getD i 0 = zs[i].toNat := by simp [List.getD, List.getElem?_take, hi, hzi]
      rw [e1, e2]
      congr 2
      omega

end Go.Proofs.YtgohhebffcldeaaGreatDoor
