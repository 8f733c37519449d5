/- Walks: lehmerGCD by 1. -/
import Derived.Test.YtgohhebffcldeaaGreatDoorGcd
import Derived.Test.YtgohhebffcldeaaGreatDoorQuo
set_option linter.unusedVariables false
set_option linter.unusedSimpArgs false
namespace Go.Proofs.YtgohhebffcldeaaGreatDoor
open Go.RowKit
open Num

/-- what the walk of lehmerGCD has laid ahead of its loops: A and B -/
structure GM (w w4 : World) (A Bk g1 g2 n V : Nat) (zb : Nat) : Prop where
  below : Below w.heap.size w w4
  ha : ∃ c1 f1, w4.heap[A]? = some (.cells #[.bool false, .slice (some ⟨g1, 0, none⟩) n c1] 142 (0, 0)) ∧ n ≤ c1 ∧ Row w4 g1 228 c1 f1 ∧ ∀ i, i < n → f1 i = .int .u64 (wd V i)
  hb : ∃ c2 f2, w4.heap[Bk]? = some (.cells #[.bool false, .slice (some ⟨g2, 0, none⟩) 1 c2] 142 (0, 0)) ∧ 1 ≤ c2 ∧ Row w4 g2 228 c2 f2 ∧ f2 0 = .int .u64 1
  la : w.heap.size ≤ A
  lb : w.heap.size ≤ Bk
  l1 : w.heap.size ≤ g1
  l2 : w.heap.size ≤ g2
  nab : A ≠ Bk
  na1 : g1 ≠ A
  nb1 : g1 ≠ Bk
  na2 : g2 ≠ A
  nb2 : g2 ≠ Bk
  n12 : g1 ≠ g2

theorem GM.keep {w w4 w5 : World} {A Bk g1 g2 n V zb : Nat} (h : GM w w4 A Bk g1 g2 n V zb) (hb : Below w4.heap.size w4 w5) : GM w w5 A Bk g1 g2 n V zb := by
  obtain ⟨c1, f1, a1, a2, a3, a4⟩ := h.ha
  obtain ⟨c2, f2, b1, b2, b3, b4⟩ := h.hb
  exact ⟨h.below.trans (hb.mono h.below.size), ⟨c1, f1, (hb.block _ (Array.getElem?_eq_some_iff.1 a1).1).trans a1, a2, a3.below hb a3.lt, a4⟩, ⟨c2, f2, (hb.block _ (Array.getElem?_eq_some_iff.1 b1).1).trans b1, b2, b3.below hb b3.lt, b4⟩, h.la, h.lb, h.l1, h.l2, h.nab, h.na1, h.nb1, h.na2, h.nb2, h.n12⟩

/-- one step of Euclid, by 1 -/
theorem euclid_one (A Bk Q R g1 g2 c1 c2 n V : Nat) (w : World) (h0 : 0 < n) (hn : n ≤ 16777216) (hV : V < 2 ^ (64 * n)) (hg1 : g1 < w.heap.size) (hg2 : g2 < w.heap.size)
    (hA : w.heap[A]? = some (.cells #[.bool false, .slice (some ⟨g1, 0, none⟩) n c1] 142 (0, 0))) (hB : w.heap[Bk]? = some (.cells #[.bool false, .slice (some ⟨g2, 0, none⟩) 1 c2] 142 (0, 0)))
    (hQ : w.heap[Q]? = some (.cells #[.bool false, .slice none 0 0] 142 (0, 0))) (hR : w.heap[R]? = some (.cells #[.bool false, .slice none 0 0] 142 (0, 0)))
    (hc : ∀ i, i < n → w.cell? ⟨g1, 0 + i, none⟩ = some (.int .u64 (wd V i))) (hcy : w.cell? ⟨g2, 0, none⟩ = some (.int .u64 1))
    (n1 : Q ≠ R) (n2 : Q ≠ A) (n3 : Q ≠ Bk) (n4 : R ≠ A) (n5 : R ≠ Bk) :
    Calls Tryz.prog 225 #[.pointer (some ⟨A, 0, none⟩), .pointer (some ⟨Bk, 0, none⟩), .pointer none, .pointer none, .pointer (some ⟨Q, 0, none⟩), .pointer (some ⟨R, 0, none⟩), .bool false] w fun e w' =>
      e = .returned (.tuple #[.pointer (some ⟨Bk, 0, none⟩), .pointer (some ⟨R, 0, none⟩), .pointer (some ⟨A, 0, none⟩), .pointer none, .pointer none]) ∧ w'.heap[R]? = some (.cells #[.bool false, .slice none 0 0] 142 (0, 0)) ∧
        (∀ k, k < w.heap.size → k ≠ Q → k ≠ R → w'.heap[k]? = w.heap[k]?) ∧ w.heap.size ≤ w'.heap.size ∧ w'.os = w.os ∧ w'.tape = w.tape ∧ w'.output = w.output := by
  have HQR := Lib.hid (QuoRem_one Q R A 0 Bk 0 g1 0 c1 g2 0 c2 n V false false false false _ _ _ _ _ _ w h0 hn hV hg1 hg2 hQ hR hA rfl rfl hB rfl rfl hc hcy n1 n2 n3 n4 n5)
  clear hA hB hQ hR hc hcy
  go_enter Tryz.func225, Tryz.ntmps225
  go_wp2_with fail
  refine HQR.out.mono ?_
  rintro e w2 ⟨rfl, c, f, q1, q2, q3, q4, q5, q6, q7, q8, q9, q10, q11⟩
  have H := Lib.hid (And.intro q2 (And.intro q7 (And.intro q8 (And.intro q9 (And.intro q10 q11)))))
  clear q1 q2 q3 q4 q5 q6 q7 q8 q9 q10 q11
  go_wp2
  exact bodyPost_ret (v := .tuple #[.pointer (some ⟨Bk, 0, none⟩), .pointer (some ⟨R, 0, none⟩), .pointer (some ⟨A, 0, none⟩), .pointer none, .pointer none]) (by simp [results, Tryz.results225, go_sem]) rfl ⟨rfl, H.out⟩

set_option maxRecDepth 100000 in
theorem lehmer_one (zb ba oa bb ob gx px cx gy py cy n V Ta Tb : Nat) (ca cb : Array Value) (an bn : Bool) (w : World) (h0 : 0 < n) (hn : n ≤ 16777216) (hV : V < 2 ^ (64 * n)) (hV0 : 0 < V)
    (hgx : gx < w.heap.size) (hgy : gy < w.heap.size)
    (hz : w.heap[zb]? = some (.cells #[.bool false, .slice none 0 0] 142 (0, 0)))
    (ha : w.heap[ba]? = some (.cells ca Ta (0, 0))) (a0 : ca[oa]? = some (.bool an)) (a1 : ca[oa + 1]? = some (.slice (some ⟨gx, px, none⟩) n cx))
    (hb : w.heap[bb]? = some (.cells cb Tb (0, 0))) (b0 : cb[ob]? = some (.bool bn)) (b1 : cb[ob + 1]? = some (.slice (some ⟨gy, py, none⟩) 1 cy))
    (hc : ∀ i, i < n → w.cell? ⟨gx, px + i, none⟩ = some (.int .u64 (wd V i))) (hcy : w.cell? ⟨gy, py, none⟩ = some (.int .u64 1)) :
    Calls Tryz.prog 202 #[.pointer (some ⟨zb, 0, none⟩), .pointer none, .pointer none, .pointer (some ⟨ba, oa, none⟩), .pointer (some ⟨bb, ob, none⟩)] w fun e w' =>
      e = .returned (.pointer (some ⟨zb, 0, none⟩)) ∧ ∃ g c, w'.heap[zb]? = some (.cells #[.bool false, .slice (some ⟨g, 0, none⟩) 1 c] 142 (0, 0)) ∧ w'.cell? ⟨g, 0, none⟩ = some (.int .u64 1) ∧ Chg zb w w' := by
  have lz := (Array.getElem?_eq_some_iff.1 hz).1
  have la := (Array.getElem?_eq_some_iff.1 ha).1
  have lb := (Array.getElem?_eq_some_iff.1 hb).1
  have HZ := Lib.hid hz; have HA := Lib.hid ha; have HB := Lib.hid hb
  have HC := Lib.hid hc; have HCY := Lib.hid hcy
  have HA0 := Lib.hid a0; have HA1 := Lib.hid a1; have HB0 := Lib.hid b0; have HB1 := Lib.hid b1
  have HAO : Hid (w.cell? ⟨ba, oa, none⟩ = some (.bool an)) := (cell_of_row w _ _ _ _ (0, 0) ha).trans a0
  clear hz ha hb hc hcy a0 a1 b0 b1
  go_enter Tryz.func202, Tryz.ntmps202
  go_wp2_with fail
  obtain ⟨w1, hw1⟩ : ∃ w1, w1 = w.alloc (.cells #[.bool false, .slice none 0 0] 142) := ⟨_, rfl⟩
  rw [← hw1]
  have hb1 : Below w.heap.size w w1 := by rw [hw1]; exact (Below.refl _ _).alloc (Nat.le_refl _) _
  have hs1 : w1.heap.size = w.heap.size + 1 := by rw [hw1]; simp
  have hq1 : w1.heap[w.heap.size]? = some (.cells #[.bool false, .slice none 0 0] 142 (0, 0)) := by rw [hw1]; exact heap_alloc_new _ _
  refine (IntAbs_some w.heap.size ba oa gx px cx n V ca 142 Ta false an w1 hV h0 (by omega) (by omega) hq1 ((hb1.block _ la).trans HA.out) HA0.out HA1.out (by omega) (fun i hi => (hb1.cell (p := ⟨gx, px + i, none⟩) hgx).trans (HC.out i hi))).mono ?_
  rintro e w2 ⟨rfl, g1, c1, f1, hh1, hg1, hn1, hr1, hf1, hch1⟩
  have hb2 : Below w.heap.size w w2 := Chg.below hb1 hb1.size hch1 (Nat.le_refl _)
  have hs2 : w.heap.size + 1 ≤ w2.heap.size := by have := hch1.size; omega
  have HHH := Lib.hid hh1; have HR1 := Lib.hid hr1; have HF1 := Lib.hid hf1; have HB2 := Lib.hid hb2; have HS2 := Lib.hid hs2
  have HG1 := Lib.hid (show w.heap.size + 1 ≤ g1 by omega)
  clear hw1 hb1 hs1 hq1 hh1 hr1 hf1 hch1 hb2 hs2 hg1
  go_wp2_with fail
  obtain ⟨w3, hw3⟩ : ∃ w3, w3 = w2.alloc (.cells #[.bool false, .slice none 0 0] 142) := ⟨_, rfl⟩
  rw [← hw3]
  have hb23 : Below w2.heap.size w2 w3 := by rw [hw3]; exact (Below.refl _ _).alloc (Nat.le_refl _) _
  have hb3 : Below w.heap.size w w3 := HB2.out.trans (hb23.mono HB2.out.size)
  have hs3 : w3.heap.size = w2.heap.size + 1 := by rw [hw3]; simp
  have hq3 : w3.heap[w2.heap.size]? = some (.cells #[.bool false, .slice none 0 0] 142 (0, 0)) := by rw [hw3]; exact heap_alloc_new _ _
  have hs2 := HS2.out
  have hy1 : (1 : Nat) < 2 ^ (64 * 1) := by decide
  refine (IntAbs_some w2.heap.size bb ob gy py cy 1 1 cb 142 Tb false bn w3 hy1 (by omega) (by omega) (by omega) hq3 ((hb3.block _ lb).trans HB.out) HB0.out HB1.out (by omega) (fun i hi => by
    obtain rfl : i = 0 := by omega
    exact (hb3.cell (p := ⟨gy, py + 0, none⟩) hgy).trans HCY.out)).mono ?_
  rintro e w4 ⟨rfl, g2, c2, f2, hh2, hg2, hn2, hr2, hf2, hch2⟩
  have hgm : GM w w4 w.heap.size w2.heap.size g1 g2 n V zb := by
    have hb4 : Below w.heap.size w w4 := Chg.below hb3 hb3.size hch2 (by omega)
    have h1l := HR1.out.lt
    have hg1 := HG1.out
    refine ⟨hb4, ⟨c1, f1, ?_, hn1, ?_, HF1.out⟩, ⟨c2, f2, hh2, hn2, hr2, ?_⟩, Nat.le_refl _, by omega, by omega, by omega, by omega, by omega, by omega, by omega, by omega, by omega⟩
    · rw [hch2.block _ (by omega) (by omega), hb23.block _ (by omega)]; exact HHH.out
    · exact (HR1.out.keep (hb23.block _ h1l)).keep (hch2.block _ (by omega) (by omega))
    · rw [hf2 0 (by omega)]; rfl
  have HGM := Lib.hid hgm
  have hl2 : w2.heap.size < w4.heap.size := (Array.getElem?_eq_some_iff.1 hh2).1
  have HL2 := Lib.hid hl2
  clear hw3 hb23 hb3 hs3 hq3 hy1 hh2 hr2 hf2 hch2 hgm hl2 hg2
  go_wp2_with fail
  obtain ⟨w5, hw5⟩ : ∃ w5, w5 = (w4.alloc (.cells #[.bool false, .slice none 0 0] 142)).alloc (.cells #[.bool false, .slice none 0 0] 142) := ⟨_, rfl⟩
  rw [← hw5]
  have hb45 : Below w4.heap.size w4 w5 := by rw [hw5]; exact ((Below.refl _ _).alloc (Nat.le_refl _) _).alloc (by simp) _
  have hs5 : w5.heap.size = w4.heap.size + 2 := by rw [hw5]; simp
  have hq5 : w5.heap[w4.heap.size]? = some (.cells #[.bool false, .slice none 0 0] 142 (0, 0)) := by rw [hw5]; exact heap2_0 _ _ _
  have hr5 : w5.heap[w4.heap.size + 1]? = some (.cells #[.bool false, .slice none 0 0] 142 (0, 0)) := by rw [hw5]; exact heap2_1 _ _ _
  obtain ⟨c1', f1', ha1, ha2, ha3, ha4⟩ := HGM.out.ha
  obtain ⟨c2', f2', hb1, hb2, hb3, hb4⟩ := HGM.out.hb
  have ha5 := (hb45.block _ (Array.getElem?_eq_some_iff.1 ha1).1).trans ha1
  have hb5 := (hb45.block _ (Array.getElem?_eq_some_iff.1 hb1).1).trans hb1
  have hg1l := ha3.lt
  have hg2l := hb3.lt
  have ha3' := ha3.below hb45 ha3.lt
  have hb3' := hb3.below hb45 hb3.lt
  have hcmp : ∃ cv : Int, 0 ≤ cv ∧ ∀ k, Calls Tryz.prog 176 #[.slice (some ⟨g1, 0, none⟩) n c1', .slice (some ⟨g2, 0, none⟩) 1 c2'] (w5.drewN k) fun e w' => e = .returned (.int .i64 cv) ∧ ∃ l, w' = (w5.drewN k).drewN l := by
    by_cases hn1 : n = 1
    · subst hn1
      refine ⟨sgn3 V 1, ?_, fun k => ?_⟩
      · unfold sgn3; rw [if_neg (by omega)]; split <;> omega
      · exact cmp_some g1 0 c1' g2 0 c2' 1 V 1 (w5.drewN k) (by omega) (by omega) hV (by decide) (fun i hi => by rw [Nat.zero_add]; show w5.cell? _ = _; rw [ha3'.cell (by omega), ha4 i hi]) (fun i hi => by
          obtain rfl : i = 0 := by omega
          show w5.cell? _ = _
          rw [Nat.zero_add, hb3'.cell (by omega), hb4]; rfl)
    · refine ⟨1, by omega, fun k => ?_⟩
      have := cmp_len (some ⟨g1, 0, none⟩) (some ⟨g2, 0, none⟩) n 1 c1' c2' (w5.drewN k) (by omega) (by omega) (by omega)
      rw [if_neg (by omega)] at this
      exact this
  obtain ⟨cv, hcv, hcm⟩ := hcmp
  have x1 : w5.cell? ⟨w.heap.size, 1, none⟩ = some (.slice (some ⟨g1, 0, none⟩) n c1') := (cell_of_row w5 _ 1 _ _ (0, 0) ha5).trans rfl
  have y1 : w5.cell? ⟨w2.heap.size, 1, none⟩ = some (.slice (some ⟨g2, 0, none⟩) 1 c2') := (cell_of_row w5 _ 1 _ _ (0, 0) hb5).trans rfl
  have hbb : Below w.heap.size w w5 := HGM.out.below.trans (hb45.mono HGM.out.below.size)
  have hao : w5.cell? ⟨ba, oa, none⟩ = some (.bool an) := (hbb.cell (p := ⟨ba, oa, none⟩) la).trans HAO
  have hcv' : ¬ (cv < 0) := by omega
  have HCM := Lib.hid hcm
  have HBB := Lib.hid hbb; have HA5 := Lib.hid ha5; have HB5 := Lib.hid hb5; have HQ5 := Lib.hid hq5; have HR5 := Lib.hid hr5
  have HR1' := Lib.hid ha3'; have HR2' := Lib.hid hb3'; have HF1' := Lib.hid ha4; have HF2' := Lib.hid hb4; have HN1 := Lib.hid ha2; have HN2 := Lib.hid hb2
  have HS5 := Lib.hid hs5
  clear hw5 hb45 hs5 hq5 hr5 ha1 ha2 ha3 ha4 hb1 hb2 hb3 hb4 ha5 hb5 ha3' hb3' hcm hbb hg1l hg2l
  go_quiet ((first | (go_at_call 176; with_reducible exact Calls.quiet_of (HCM.out _))))
  obtain ⟨w6, hw6⟩ : ∃ w6, w6 = w5.drewN nq := ⟨_, rfl⟩
  rw [← hw6]
  have x6 : w6.cell? ⟨w.heap.size, 1, none⟩ = some (.slice (some ⟨g1, 0, none⟩) n c1') := by rw [hw6]; exact x1
  have y6 : w6.cell? ⟨w2.heap.size, 1, none⟩ = some (.slice (some ⟨g2, 0, none⟩) 1 c2') := by rw [hw6]; exact y1
  have a6 : w6.cell? ⟨ba, oa, none⟩ = some (.bool an) := by rw [hw6]; exact hao
  have HW6 := Lib.hid hw6
  clear hw6 x1 y1 hao HCM
  go_wp2_with fail
  refine wp_loop_rounds 1 ?_
  rw [rounds_succ]
  by_cases hn1 : n = 1
  · subst hn1
    have hw0 : wd V 0 = V := by unfold wd; simp; omega
    have k1 : w6.cell? ⟨g1, 0, none⟩ = some (.int .u64 V) := by rw [HW6.out]; show w5.cell? _ = _; rw [HR1'.out.cell (by have := HN1.out; omega), HF1'.out 0 (by omega), hw0]
    have k2 : w6.cell? ⟨g2, 0, none⟩ = some (.int .u64 1) := by rw [HW6.out]; show w5.cell? _ = _; rw [HR2'.out.cell (by have := HN2.out; omega), HF2'.out]
    clear hw0
    go_wp2_with fail
    go_quiet (fail)
    obtain ⟨q1, hq1⟩ : ∃ q1, q1 = nq := ⟨_, rfl⟩
    rw [← hq1]
    clear hq1
    go_wp2_with fail
    refine wp_loop_rounds 2 ?_
    rw [rounds_succ]
    go_wp2_with fail
    go_quiet (fail)
    go_wp2_with fail
    rw [rounds_succ]
    obtain ⟨w9, hw9⟩ : ∃ w9, w9 = (w6.drewN q1).drewN nq := ⟨_, rfl⟩
    rw [← hw9]
    have hh9 : w9.heap = w5.heap := by rw [hw9, HW6.out]; rfl
    have hl2 := HL2.out
    have hs2 := HS2.out
    have hs5 := HS5.out
    have hb9 : Below w.heap.size w w9 := by rw [hw9, HW6.out]; exact below_drewN (below_drewN (below_drewN HBB.out))
    have hA9 : w9.heap[w.heap.size]? = some (.cells #[.bool false, .slice (some ⟨g1, 0, none⟩) 1 c1'] 142 (0, 0)) := by rw [hh9]; exact HA5.out
    have hr9 : Row w9 g1 228 c1' f1' := HR1'.out.keep (by rw [hh9])
    have x9 : w9.cell? ⟨w.heap.size, 1, none⟩ = some (.slice (some ⟨g1, 0, none⟩) 1 c1') := (cell_of_row w9 _ 1 _ _ (0, 0) hA9).trans rfl
    have k9 := hr9.cell (i := 0) (by have := HN1.out; omega)
    have f9 := hr9.frozen 0
    have a9 : w9.cell? ⟨ba, oa, none⟩ = some (.bool an) := (hb9.cell (p := ⟨ba, oa, none⟩) la).trans HAO
    have hg1 : w.heap.size ≤ g1 := HGM.out.l1
    have n1 : ba ≠ g1 := by omega
    have n2 : w.heap.size ≠ g1 := fun e => HGM.out.na1 e.symm
    have n3 : zb ≠ g1 := by omega
    have hb10 : Below w.heap.size w (w9.setCell ⟨g1, 0, none⟩ (.int .u64 1)) := hb9.setCell hg1 _
    have hA10 : (w9.setCell ⟨g1, 0, none⟩ (.int .u64 1)).heap[w.heap.size]? = some (.cells #[.bool false, .slice (some ⟨g1, 0, none⟩) 1 c1'] 142 (0, 0)) := (Below.heap_setCell w9 (⟨g1, 0, none⟩ : Addr) _ _ n2).trans hA9
    have SET := Lib.hid (Int_Set_some zb 0 w.heap.size 0 g1 0 c1' 1 1 #[.bool false, .slice none 0 0] #[.bool false, .slice (some ⟨g1, 0, none⟩) 1 c1'] 142 142 false false (w9.setCell ⟨g1, 0, none⟩ (.int .u64 1)) (by decide) (by omega) (by omega) (by have := hr9.lt; simpa [World.setCell] using this) ((hb10.block _ lz).trans HZ.out) hA10 rfl rfl rfl rfl (by omega) (fun i hi => by
      obtain rfl : i = 0 := by omega
      rw [Nat.add_zero, (hr9.set 0 (.int .u64 1)).cell (by have := HN1.out; omega)]; rfl))
    have HB10 := Lib.hid hb10
    clear hw9 hh9 hb9 hA9 hr9 hb10 hA10
    go_wp2_with fail
    refine SET.out.mono ?_
    rintro e w8 ⟨rfl, s8, hnew, hch, hh⟩
    rcases hnew with ⟨h, _⟩ | ⟨_, _, g8, c8, f8, rfl, hg8, hc8, hc8', hr8, hf8⟩
    · omega
    have HH := Lib.hid hh; have HCH := Lib.hid hch; have HR8 := Lib.hid hr8; have HF8 := Lib.hid hf8
    clear hh hch hr8 hf8
    go_wp2
    go_ret
    refine ⟨rfl, g8, c8, HH.out, ?_, (Chg.of_below (HB10.out)).trans HCH.out⟩
    rw [HR8.out.cell (by omega), HF8.out 0 (by omega)]; rfl
  · have hn2 : 1 < n := by omega
    have E := Lib.hid (euclid_one w.heap.size w2.heap.size w4.heap.size (w4.heap.size + 1) g1 g2 c1' c2' n V w6 h0 hn hV (by rw [HW6.out]; exact HR1'.out.lt) (by rw [HW6.out]; exact HR2'.out.lt) (by rw [HW6.out]; exact HA5.out) (by rw [HW6.out]; exact HB5.out) (by rw [HW6.out]; exact HQ5.out) (by rw [HW6.out]; exact HR5.out)
      (fun i hi => by rw [HW6.out]; show w5.cell? _ = _; rw [Nat.zero_add, HR1'.out.cell (by have := HN1.out; omega), HF1'.out i hi]) (by rw [HW6.out]; show w5.cell? _ = _; rw [HR2'.out.cell (by have := HN2.out; omega), HF2'.out]) (by omega) (by have := HGM.out.below.size; have := HL2.out; have := HS2.out; omega) (by have := HL2.out; omega) (by have := HL2.out; have := HS2.out; omega) (by have := HL2.out; omega))
    go_wp2_with fail
    refine E.out.mono ?_
    rintro e w7 ⟨rfl, hR7, hk7, hsz7, o1, o2, o3⟩
    have hl2 := HL2.out
    have hs2 := HS2.out
    have hs5 := HS5.out
    have hs6 : w6.heap.size = w5.heap.size := by rw [HW6.out]; rfl
    have hb67 : Below w4.heap.size w6 w7 := ⟨o1, o2, o3, hsz7, fun k hk => hk7 k (by omega) (by omega) (by omega)⟩
    have r7 : w7.cell? ⟨w4.heap.size + 1, 1, none⟩ = some (.slice none 0 0) := (cell_of_row w7 _ 1 _ _ (0, 0) hR7).trans rfl
    have a7 : w7.cell? ⟨ba, oa, none⟩ = some (.bool an) := (hb67.cell (p := ⟨ba, oa, none⟩) (by show ba < _; omega)).trans a6
    have hbw6 : Below w.heap.size w w6 := by rw [HW6.out]; exact below_drewN HBB.out
    have hbw7 : Below w.heap.size w w7 := hbw6.trans (hb67.mono (by omega))
    have hB7 : w7.heap[w2.heap.size]? = some (.cells #[.bool false, .slice (some ⟨g2, 0, none⟩) 1 c2'] 142 (0, 0)) := by
      rw [hb67.block _ hl2, HW6.out]; exact HB5.out
    have hg2l : g2 < w4.heap.size := by
      obtain ⟨_, _, _, _, h, _⟩ := HGM.out.hb
      exact h.lt
    have k2 : w7.cell? ⟨g2, 0 + 0, none⟩ = some (.int .u64 1) := by
      rw [hb67.cell (p := ⟨g2, 0 + 0, none⟩) hg2l, HW6.out]; show w5.cell? _ = _
      rw [HR2'.out.cell (by have := HN2.out; omega), HF2'.out]
    have SET := Lib.hid (Int_Set_some zb 0 w2.heap.size 0 g2 0 c2' 1 1 #[.bool false, .slice none 0 0] #[.bool false, .slice (some ⟨g2, 0, none⟩) 1 c2'] 142 142 false false w7 (by decide) (by omega) (by omega) (by have := hb67.size; omega) ((hbw7.block _ lz).trans HZ.out) hB7 rfl rfl rfl rfl (by omega) (fun i hi => by
      obtain rfl : i = 0 := by omega
      exact k2))
    have HBW7 := Lib.hid hbw7
    clear hR7 hk7 hsz7 o1 o2 o3 hb67 hbw6 hbw7 hB7 k2 hg2l
    go_wp2_with fail
    refine SET.out.mono ?_
    rintro e w8 ⟨rfl, s8, hnew, hch, hh⟩
    rcases hnew with ⟨h, _⟩ | ⟨_, _, g8, c8, f8, rfl, hg8, hc8, hc8', hr8, hf8⟩
    · omega
    have HH := Lib.hid hh; have HCH := Lib.hid hch; have HR8 := Lib.hid hr8; have HF8 := Lib.hid hf8
    clear hh hch hr8 hf8
    go_wp2
    go_ret
    refine ⟨rfl, g8, c8, HH.out, ?_, (Chg.of_below (HBW7.out)).trans HCH.out⟩
    rw [HR8.out.cell (by omega), HF8.out 0 (by omega)]; rfl

end Go.Proofs.YtgohhebffcldeaaGreatDoor
