import Derived.Test.YtpcleebnfgnhdaaGreatDoorGz39
import Derived.Test.YtpcleebnfgnhdaaGreatDoorGz42
/- Walk: laws.FnGraphHash. -/
set_option linter.unusedVariables false
set_option linter.unusedSimpArgs false
namespace Go.Proofs.YtpcleebnfgnhdaaGreatDoor
open Go.RowKit
open Num

theorem tree_hashed {N : List Nd} {n r d : Nat} {t : Tr} (hN : GraphOK N n) (hr : r < d) (h : treeG N d r = some t) : hashB d t = hashG N (r + 1) r := by
  rw [← hashG_level hN r d hr, Bool.eq_iff_iff]
  constructor
  · intro hb
    exact (tree_hash hN.bare d r).2 ⟨t, h, hb⟩
  · intro hh
    obtain ⟨t', h1, h2⟩ := (tree_hash hN.bare d r).1 hh
    obtain rfl := Option.some.inj (h1.symm.trans h)
    exact h2
theorem no_tree_hashed {N : List Nd} {n r d : Nat} (hN : GraphOK N n) (hr : r < d) (h : treeG N d r = none) : hashG N (r + 1) r = false := by
  rw [← hashG_level hN r d hr]
  cases hh : hashG N d r with
  | false => rfl
  | true =>
    obtain ⟨t', h1, h2⟩ := (tree_hash hN.bare d r).1 hh
    rw [h] at h1
    cases h1

set_option maxRecDepth 100000 in
set_option maxHeartbeats 8000000 in
theorem FnGraphHash_of (gs : Value) (root : Int) (w : World) (hkt : KT w) (hcl : CL w) (h : RawNds w gs) (hr1 : -9223372036854775808 ≤ root ∧ root ≤ 9223372036854775807)
    (hCG : ∀ W, Below w.heap.size w W → Calls Tryz.prog 6 #[.agg #[gs, .int .i64 root]] W (ClgIs W)) :
    Calls Tryz.prog 3 #[.agg #[gs, .int .i64 root]] w fun e w' => e = .returned (.bool true) ∧ Below w.heap.size w w' := by
  have hraw := h
  obtain ⟨a, m, c, rfl, _⟩ := h
  obtain ⟨w1, hw1⟩ : ∃ w1, w1 = w.alloc (.cells #[.slice a m c, .int .i64 root] 24) := ⟨_, rfl⟩
  have hb1 : Below w.heap.size w w1 := by rw [hw1]; exact below_al0 _ _
  have h10 : w1.heap[w.heap.size]? = some (.cells #[.slice a m c, .int .i64 root] 24 (0, 0)) := by rw [hw1]; exact heap_alloc_new _ _
  have hs1 : w1.heap.size = w.heap.size + 1 := by rw [hw1]; simp
  have HZ := Lib.hid (show ∀ W, Below w1.heap.size w1 W → W.cell? ⟨w.heap.size, 0, none⟩ = some (.slice a m c) ∧ W.cell? ⟨w.heap.size, 1, none⟩ = some (.int .i64 root) from fun W hb => by
    have h := (hb.block w.heap.size (by omega)).trans h10
    exact ⟨(cell_of_row _ _ 0 _ _ (0, 0) h).trans rfl, (cell_of_row _ _ 1 _ _ (0, 0) h).trans rfl⟩)
  have HF := Lib.hid (zzFits8_any (.slice a m c) root w1 (hraw.below hb1))
  have HCG := Lib.hid (fun W (hb : Below w1.heap.size w1 W) => hCG W (hb1.trans (hb.mono hb1.size)))
  have HKT := Lib.hid (fun W (hb : Below w1.heap.size w1 W) => And.intro ((hkt.below hb1).below hb) ((hcl.below hb1).below hb))
  have HW1 := Lib.hid hw1; have HB1 := Lib.hid hb1
  clear hraw hkt hcl hCG hw1 hb1 h10 hs1 hr1
  obtain ⟨x0, x1⟩ := HZ.out w1 (Below.refl _ _)
  go_enter Tryz.func3, Tryz.ntmps3
  go_wp2_with fail
  rw [← HW1.out]
  go_wp2_with fail
  refine HF.out.mono ?_
  rintro e w2 ⟨r, rfl, hb2⟩
  have HB2 := Lib.hid hb2
  clear x0 x1
  obtain ⟨x0, x1⟩ := HZ.out w2 hb2
  have HC := Lib.hid (HCG.out w2 hb2)
  clear hb2
  cases r with
  | false =>
    go_wp2
    go_ret
    exact ⟨rfl, HB1.out.trans (HB2.out.mono HB1.out.size)⟩
  | true =>
    go_wp2_with fail
    refine HC.out.mono ?_
    rintro e w3 ⟨v, N, rt, rfl, hgr, hrl, hN12, hok, hb3⟩
    obtain ⟨va, vc, rfl⟩ := hgr.shape
    have HB3 := Lib.hid (HB2.out.trans (hb3.mono HB2.out.size))
    obtain ⟨w4, hw4⟩ : ∃ w4, w4 = w3.alloc (.cells #[.slice va N.length vc, .int .i64 rt] 24) := ⟨_, rfl⟩
    have hb4 : Below w3.heap.size w3 w4 := by rw [hw4]; exact below_al0 _ _
    have hs4 : w4.heap.size = w3.heap.size + 1 := by rw [hw4]; simp
    have h40 : w4.heap[w3.heap.size]? = some (.cells #[.slice va N.length vc, .int .i64 rt] 24 (0, 0)) := by rw [hw4]; exact heap_alloc_new _ _
    obtain ⟨n, hn⟩ : ∃ n, n = N.length := ⟨_, rfl⟩
    have HN := Lib.hid hn
    have HGZ := Lib.hid (show ∀ W, Below w4.heap.size w4 W → W.cell? ⟨w3.heap.size, 0, none⟩ = some (.slice va n vc) ∧ W.cell? ⟨w3.heap.size, 1, none⟩ = some (.int .i64 rt) from fun W hb => by
      have h := (hb.block w3.heap.size (by omega)).trans h40
      rw [hn]
      exact ⟨(cell_of_row _ _ 0 _ _ (0, 0) h).trans rfl, (cell_of_row _ _ 1 _ _ (0, 0) h).trans rfl⟩)
    have hS : ∀ W, Below w4.heap.size w4 W → GrB W (fun b => w2.heap.size ≤ b ∧ b < w3.heap.size) (.slice va n vc) N ∧ ∀ b, (w2.heap.size ≤ b ∧ b < w3.heap.size) → b < W.heap.size := fun W hb => by
      rw [hn]
      exact ⟨hgr.turn (fun _ h => h) (Nat.le_trans hb4.size hb.size) (fun b _ hl => (hb.block b (by omega)).trans (hb4.block b hl)), fun b h => by have := hb.size; omega⟩
    have HUF := Lib.hid (Unfolds_any N _ (.slice va n vc) rt 3000 w4 (hS w4 (Below.refl _ _)).1 (hS w4 (Below.refl _ _)).2 (by omega) (fun x hx => ⟨by have := (hok.nodes (by omega) x hx).1; omega, (hok.nodes (by omega) x hx).2.1⟩))
    have HTR := Lib.hid (fun W (hb : Below w4.heap.size w4 W) => Tree_any 14 N _ (.slice va n vc) rt rt W (hS W hb).1 (hS W hb).2 (by omega) (by omega) (by omega) (hok.nodes (by omega)))
    have HBF := Lib.hid (HB3.out.trans (hb4.mono HB3.out.size))
    have HGH := Lib.hid (fun W (hb : Below w4.heap.size w4 W) => GraphHash_any N _ (.slice va n vc) rt W (hS W hb).1 (hS W hb).2 hok hrl (by omega) (HKT.out W (HBF.out.trans (hb.mono HBF.out.size))).1 (HKT.out W (HBF.out.trans (hb.mono HBF.out.size))).2)
    have HTH := Lib.hid (fun (t : Tr) (h : treeG N 14 rt = some t) => And.intro (tree_hashed hok (by omega) h) (treeG_slim (fun x hx => (hok.nodes (by omega) x hx).1) 14 rt t h))
    have HNT := Lib.hid (fun (h : treeG N 14 rt = none) => no_tree_hashed hok (by omega) h)
    obtain ⟨R, hR⟩ : ∃ R, R = hashG N (rt + 1) rt := ⟨_, rfl⟩
    rw [← hR] at HGH HTH HNT
    have HW4 := Lib.hid hw4
    rw [← hn] at HW4 ⊢
    clear hgr hrl hN12 hok hb3 hw4 hb4 hs4 h40 hS hR hn x0 x1
    have y01 := HGZ.out w4 (Below.refl _ _)
    rw [HW4.out] at y01
    obtain ⟨y0, y1⟩ := y01
    go_wp2_with fail
    rw [← HW4.out]
    refine HUF.out.mono ?_
    rintro e w5 ⟨r5, rfl, hb5⟩
    clear y0 y1
    obtain ⟨y0, y1⟩ := HGZ.out w5 hb5
    have HB5 := Lib.hid hb5
    have HT5 := Lib.hid (HTR.out w5 hb5)
    clear hb5
    cases r5 with
    | false =>
      go_wp2
      go_ret
      exact ⟨rfl, HB1.out.trans ((HBF.out.trans (HB5.out.mono HBF.out.size)).mono HB1.out.size)⟩
    | true =>
      go_wp2_with fail
      refine HT5.out.mono ?_
      rintro e w6 ⟨r6, q0, q1, q2, q3, q4, q5, q6, q7, q8, q9, rfl, hb6, hyes, hno⟩
      obtain ⟨w7, hw7⟩ : ∃ w7, w7 = w6.alloc (sixO q0 q1 q2 q3 q4 q5 q6 q7 q8 q9) := ⟨_, rfl⟩
      have hb67 : Below w6.heap.size w6 w7 := by rw [hw7]; exact below_al0 _ _
      have h7r : w7.heap[w6.heap.size]? = some (sixO q0 q1 q2 q3 q4 q5 q6 q7 q8 q9) := by rw [hw7]; exact heap_alloc_new _ _
      have hb57 : Below w5.heap.size w5 w7 := hb6.trans (hb67.mono hb6.size)
      have hb47 : Below w4.heap.size w4 w7 := HB5.out.trans (hb57.mono HB5.out.size)
      have HGC := Lib.hid (HGH.out w7 hb47)
      have HB7 := Lib.hid hb47
      have HX7 := Lib.hid h7r
      have HVA := Lib.hid (show r6 = true → ∃ t, treeG N 14 rt = some t ∧ ValAt w7 14 (sixV q0 q1 q2 q3 q4 q5 q6 q7 q8 q9) t from fun h => by
        obtain ⟨t, h1, h2⟩ := hyes h
        exact ⟨t, h1, (h2.below hb67).at_⟩)
      have HNO := Lib.hid hno
      have HW7 := Lib.hid hw7
      clear hb6 hyes hno hw7 hb67 h7r hb57 hb47 y0 y1
      have y01 := HGZ.out w7 HB7.out
      rw [HW7.out] at y01
      obtain ⟨y0, y1⟩ := y01
      go_wp2_with fail
      rw [← HW7.out]
      refine HGC.out.mono ?_
      rintro e w8 ⟨hv, rfl, hb8⟩
      have HB8 := Lib.hid (HB7.out.trans (hb8.mono HB7.out.size))
      obtain ⟨a0, a1, a2, a3, a4, a5⟩ := box6 HX7.out hb8
      clear y0 y1
      have HEND := Lib.hid (show ∀ W, Below w8.heap.size w8 W → Below w.heap.size w W from fun W hb => HB1.out.trans ((HBF.out.trans ((HB8.out.trans (hb.mono HB8.out.size)).mono HBF.out.size)).mono HB1.out.size))
      cases r6 with
      | false =>
        have hR0 := HNT.out (HNO.out rfl)
        subst hR0
        clear hb8
        go_wp2
        go_ret
        exact ⟨rfl, HEND.out _ (Below.refl _ _)⟩
      | true =>
        obtain ⟨t, ht, hva⟩ := HVA.out rfl
        obtain ⟨h1, h2⟩ := HTH.out t ht
        have HHB := Lib.hid (Hashable_any 14 _ t w8 (hva.below hb8) h2)
        rw [h1] at HHB
        clear hb8 ht hva h1 h2
        go_wp2_with fail
        refine HHB.out.mono ?_
        rintro e w9 ⟨rfl, hb9⟩
        have HB9 := Lib.hid (HEND.out w9 hb9)
        clear hb9
        cases R
        all_goals (
          go_wp2
          go_ret
          exact ⟨rfl, HB9.out⟩)
end Go.Proofs.YtpcleebnfgnhdaaGreatDoor
