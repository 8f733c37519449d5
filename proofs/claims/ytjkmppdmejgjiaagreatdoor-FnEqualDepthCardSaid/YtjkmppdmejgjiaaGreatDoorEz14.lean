import Derived.Test.YtjkmppdmejgjiaaGreatDoorEz7
import Derived.Test.YtjkmppdmejgjiaaGreatDoorEz13
import Derived.Defers
import Derived.Test.YtjkmppdmejgjiaaGreatDoorEz5
/- Walks: lehmerGCD by 1. -/
set_option linter.unusedVariables false
set_option linter.unusedSimpArgs false
namespace Go.Proofs.YtjkmppdmejgjiaaGreatDoor
open Go.RowKit
open Num

/-- what the walk of lehmerGCD has laid ahead of its loops: A and B -/
structure GM (w w4 : World) (A Bk g1 g2 n V : Nat) (zb : Nat) : Prop where
  below : Below w.heap.size w w4
  ha : ∃ c1 f1, w4.heap[A]? = some (.cells #[.bool false, .slice (some ⟨g1, 0, none⟩) n c1] 159 (0, 0)) ∧ n ≤ c1 ∧ Row w4 g1 195 c1 f1 ∧ ∀ i, i < n → f1 i = .int .u64 (wd V i)
  hb : ∃ c2 f2, w4.heap[Bk]? = some (.cells #[.bool false, .slice (some ⟨g2, 0, none⟩) 1 c2] 159 (0, 0)) ∧ 1 ≤ c2 ∧ Row w4 g2 195 c2 f2 ∧ f2 0 = .int .u64 1
  la : w.heap.size ≤ A
  lb : w.heap.size ≤ Bk
  l1 : w.heap.size ≤ g1
  l2 : w.heap.size ≤ g2
  nab : A ≠ Bk
  na1 : g1 ≠ A
  nb1 : g1 ≠ Bk
  na2 : g2 ≠ A
  nb2 : g2 ≠ Bk
  n12 : g1 ≠ g2

theorem GM.keep {w w4 w5 : World} {A Bk g1 g2 n V zb : Nat} (h : GM w w4 A Bk g1 g2 n V zb) (hb : Below w4.heap.size w4 w5) : GM w w5 A Bk g1 g2 n V zb := by
  obtain ⟨c1, f1, a1, a2, a3, a4⟩ := h.ha
  obtain ⟨c2, f2, b1, b2, b3, b4⟩ := h.hb
  exact ⟨h.below.trans (hb.mono h.below.size), ⟨c1, f1, (hb.block _ (Array.getElem?_eq_some_iff.1 a1).1).trans a1, a2, a3.below hb a3.lt, a4⟩, ⟨c2, f2, (hb.block _ (Array.getElem?_eq_some_iff.1 b1).1).trans b1, b2, b3.below hb b3.lt, b4⟩, h.la, h.lb, h.l1, h.l2, h.nab, h.na1, h.nb1, h.na2, h.nb2, h.n12⟩

/-- one step of Euclid, by 1 -/
theorem euclid_one (A Bk Q R g1 g2 c1 c2 n V : Nat) (w : World) (h0 : 0 < n) (hn : n ≤ 16777216) (hV : V < 2 ^ (64 * n)) (hg1 : g1 < w.heap.size) (hg2 : g2 < w.heap.size)
    (hA : w.heap[A]? = some (.cells #[.bool false, .slice (some ⟨g1, 0, none⟩) n c1] 159 (0, 0))) (hB : w.heap[Bk]? = some (.cells #[.bool false, .slice (some ⟨g2, 0, none⟩) 1 c2] 159 (0, 0)))
    (hQ : w.heap[Q]? = some (.cells #[.bool false, .slice none 0 0] 159 (0, 0))) (hR : w.heap[R]? = some (.cells #[.bool false, .slice none 0 0] 159 (0, 0)))
    (hc : ∀ i, i < n → w.cell? ⟨g1, 0 + i, none⟩ = some (.int .u64 (wd V i))) (hcy : w.cell? ⟨g2, 0, none⟩ = some (.int .u64 1))
    (n1 : Q ≠ R) (n2 : Q ≠ A) (n3 : Q ≠ Bk) (n4 : R ≠ A) (n5 : R ≠ Bk) :
    Calls Tryz.prog 148 #[.pointer (some ⟨A, 0, none⟩), .pointer (some ⟨Bk, 0, none⟩), .pointer none, .pointer none, .pointer (some ⟨Q, 0, none⟩), .pointer (some ⟨R, 0, none⟩), .bool false] w fun e w' =>
      e = .returned (.tuple #[.pointer (some ⟨Bk, 0, none⟩), .pointer (some ⟨R, 0, none⟩), .pointer (some ⟨A, 0, none⟩), .pointer none, .pointer none]) ∧ w'.heap[R]? = some (.cells #[.bool false, .slice none 0 0] 159 (0, 0)) ∧
        (∀ k, k < w.heap.size → k ≠ Q → k ≠ R → w'.heap[k]? = w.heap[k]?) ∧ w.heap.size ≤ w'.heap.size ∧ w'.os = w.os ∧ w'.tape = w.tape ∧ w'.output = w.output := by
  have HQR := Lib.hid (QuoRem_one Q R A 0 Bk 0 g1 0 c1 g2 0 c2 n V false false false false _ _ _ _ _ _ w h0 hn hV hg1 hg2 hQ hR hA rfl rfl hB rfl rfl hc hcy n1 n2 n3 n4 n5)
  clear hA hB hQ hR hc hcy
  go_enter Tryz.func148, Tryz.ntmps148
  go_wp2_with fail
  refine HQR.out.mono ?_
  rintro e w2 ⟨rfl, c, f, q1, q2, q3, q4, q5, q6, q7, q8, q9, q10, q11⟩
  have H := Lib.hid (And.intro q2 (And.intro q7 (And.intro q8 (And.intro q9 (And.intro q10 q11)))))
  clear q1 q2 q3 q4 q5 q6 q7 q8 q9 q10 q11
  go_wp2
  exact bodyPost_ret (v := .tuple #[.pointer (some ⟨Bk, 0, none⟩), .pointer (some ⟨R, 0, none⟩), .pointer (some ⟨A, 0, none⟩), .pointer none, .pointer none]) (by simp [results, Tryz.results148, go_sem]) rfl ⟨rfl, H.out⟩

set_option maxRecDepth 100000 in
theorem lehmer_one (zb ba oa bb ob gx px cx gy py cy n V Ta Tb : Nat) (ca cb : Array Value) (an bn : Bool) (w : World) (h0 : 0 < n) (hn : n ≤ 16777216) (hV : V < 2 ^ (64 * n)) (hV0 : 0 < V)
    (hgx : gx < w.heap.size) (hgy : gy < w.heap.size)
    (hz : w.heap[zb]? = some (.cells #[.bool false, .slice none 0 0] 159 (0, 0)))
    (ha : w.heap[ba]? = some (.cells ca Ta (0, 0))) (a0 : ca[oa]? = some (.bool an)) (a1 : ca[oa + 1]? = some (.slice (some ⟨gx, px, none⟩) n cx))
    (hb : w.heap[bb]? = some (.cells cb Tb (0, 0))) (b0 : cb[ob]? = some (.bool bn)) (b1 : cb[ob + 1]? = some (.slice (some ⟨gy, py, none⟩) 1 cy))
    (hc : ∀ i, i < n → w.cell? ⟨gx, px + i, none⟩ = some (.int .u64 (wd V i))) (hcy : w.cell? ⟨gy, py, none⟩ = some (.int .u64 1)) :
    Calls Tryz.prog 126 #[.pointer (some ⟨zb, 0, none⟩), .pointer none, .pointer none, .pointer (some ⟨ba, oa, none⟩), .pointer (some ⟨bb, ob, none⟩)] w fun e w' =>
      e = .returned (.pointer (some ⟨zb, 0, none⟩)) ∧ ∃ g c, w'.heap[zb]? = some (.cells #[.bool false, .slice (some ⟨g, 0, none⟩) 1 c] 159 (0, 0)) ∧ w'.cell? ⟨g, 0, none⟩ = some (.int .u64 1) ∧ Chg zb w w' := by
  have lz := (Array.getElem?_eq_some_iff.1 hz).1
  have la := (Array.getElem?_eq_some_iff.1 ha).1
  have lb := (Array.getElem?_eq_some_iff.1 hb).1
  have HZ := Lib.hid hz; have HA := Lib.hid ha; have HB := Lib.hid hb
  have HC := Lib.hid hc; have HCY := Lib.hid hcy
  have HA0 := Lib.hid a0; have HA1 := Lib.hid a1; have HB0 := Lib.hid b0; have HB1 := Lib.hid b1
  have HAO : Hid (w.cell? ⟨ba, oa, none⟩ = some (.bool an)) := (cell_of_row w _ _ _ _ (0, 0) ha).trans a0
  clear hz ha hb hc hcy a0 a1 b0 b1
  go_enter Tryz.func126, Tryz.ntmps126
  go_wp2_with fail
  obtain ⟨w1, hw1⟩ : ∃ w1, w1 = w.alloc (.cells #[.bool false, .slice none 0 0] 159) := ⟨_, rfl⟩
  rw [← hw1]
  have hb1 : Below w.heap.size w w1 := by rw [hw1]; exact (Below.refl _ _).alloc (Nat.le_refl _) _
  have hs1 : w1.heap.size = w.heap.size + 1 := by rw [hw1]; simp
  have hq1 : w1.heap[w.heap.size]? = some (.cells #[.bool false, .slice none 0 0] 159 (0, 0)) := by rw [hw1]; exact heap_alloc_new _ _
  refine (IntAbs_some w.heap.size ba oa gx px cx n V ca 159 Ta false an w1 hV h0 (by omega) (by omega) hq1 ((hb1.block _ la).trans HA.out) HA0.out HA1.out (by omega) (fun i hi => (hb1.cell (p := ⟨gx, px + i, none⟩) hgx).trans (HC.out i hi))).mono ?_
  rintro e w2 ⟨rfl, g1, c1, f1, hh1, hg1, hn1, hr1, hf1, hch1⟩
  have hb2 : Below w.heap.size w w2 := Chg.below hb1 hb1.size hch1 (Nat.le_refl _)
  have hs2 : w.heap.size + 1 ≤ w2.heap.size := by have := hch1.size; omega
  have HHH := Lib.hid hh1; have HR1 := Lib.hid hr1; have HF1 := Lib.hid hf1; have HB2 := Lib.hid hb2; have HS2 := Lib.hid hs2
  have HG1 := Lib.hid (show w.heap.size + 1 ≤ g1 by omega)
  clear hw1 hb1 hs1 hq1 hh1 hr1 hf1 hch1 hb2 hs2 hg1
  go_wp2_with fail
  obtain ⟨w3, hw3⟩ : ∃ w3, w3 = w2.alloc (.cells #[.bool false, .slice none 0 0] 159) := ⟨_, rfl⟩
  rw [← hw3]
  have hb23 : Below w2.heap.size w2 w3 := by rw [hw3]; exact (Below.refl _ _).alloc (Nat.le_refl _) _
  have hb3 : Below w.heap.size w w3 := HB2.out.trans (hb23.mono HB2.out.size)
  have hs3 : w3.heap.size = w2.heap.size + 1 := by rw [hw3]; simp
  have hq3 : w3.heap[w2.heap.size]? = some (.cells #[.bool false, .slice none 0 0] 159 (0, 0)) := by rw [hw3]; exact heap_alloc_new _ _
  have hs2 := HS2.out
  have hy1 : (1 : Nat) < 2 ^ (64 * 1) := by decide
  refine (IntAbs_some w2.heap.size bb ob gy py cy 1 1 cb 159 Tb false bn w3 hy1 (by omega) (by omega) (by omega) hq3 ((hb3.block _ lb).trans HB.out) HB0.out HB1.out (by omega) (fun i hi => by
    obtain rfl : i = 0 := by omega
    exact (hb3.cell (p := ⟨gy, py + 0, none⟩) hgy).trans HCY.out)).mono ?_
  rintro e w4 ⟨rfl, g2, c2, f2, hh2, hg2, hn2, hr2, hf2, hch2⟩
  have hgm : GM w w4 w.heap.size w2.heap.size g1 g2 n V zb := by
    have hb4 : Below w.heap.size w w4 := Chg.below hb3 hb3.size hch2 (by omega)
    have h1l := HR1.out.lt
    have hg1 := HG1.out
    refine ⟨hb4, ⟨c1, f1, ?_, hn1, ?_, HF1.out⟩, ⟨c2, f2, hh2, hn2, hr2, ?_⟩, Nat.le_refl _, by omega, by omega, by omega, by omega, by omega, by omega, by omega, by omega, by omega⟩
    · rw [hch2.block _ (by omega) (by omega), hb23.block _ (by omega)]; exact HHH.out
    · exact (HR1.out.keep (hb23.block _ h1l)).keep (hch2.block _ (by omega) (by omega))
    · rw [hf2 0 (by omega)]; rfl
  have HGM := Lib.hid hgm
  have hl2 : w2.heap.size < w4.heap.size := (Array.getElem?_eq_some_iff.1 hh2).1
  have HL2 := Lib.hid hl2
  clear hw3 hb23 hb3 hs3 hq3 hy1 hh2 hr2 hf2 hch2 hgm hl2 hg2
  go_wp2_with fail
  obtain ⟨w5, hw5⟩ : ∃ w5, w5 = (w4.alloc (.cells #[.bool false, .slice none 0 0] 159)).alloc (.cells #[.bool false, .slice none 0 0] 159) := ⟨_, rfl⟩
  rw [← hw5]
  have hb45 : Below w4.heap.size w4 w5 := by rw [hw5]; exact ((Below.refl _ _).alloc (Nat.le_refl _) _).alloc (by simp) _
  have hs5 : w5.heap.size = w4.heap.size + 2 := by rw [hw5]; simp
  have hq5 : w5.heap[w4.heap.size]? = some (.cells #[.bool false, .slice none 0 0] 159 (0, 0)) := by rw [hw5]; exact heap2_0 _ _ _
  have hr5 : w5.heap[w4.heap.size + 1]? = some (.cells #[.bool false, .slice none 0 0] 159 (0, 0)) := by rw [hw5]; exact heap2_1 _ _ _
  obtain ⟨c1', f1', ha1, ha2, ha3, ha4⟩ := HGM.out.ha
  obtain ⟨c2', f2', hb1, hb2, hb3, hb4⟩ := HGM.out.hb
  have ha5 := (hb45.block _ (Array.getElem?_eq_some_iff.1 ha1).1).trans ha1
  have hb5 := (hb45.block _ (Array.getElem?_eq_some_iff.1 hb1).1).trans hb1
  have hg1l := ha3.lt
  have hg2l := hb3.lt
  have ha3' := ha3.below hb45 ha3.lt
  have hb3' := hb3.below hb45 hb3.lt
  have hcmp : ∃ cv : Int, 0 ≤ cv ∧ ∀ k, Calls Tryz.prog 101 #[.slice (some ⟨g1, 0, none⟩) n c1', .slice (some ⟨g2, 0, none⟩) 1 c2'] (w5.drewN k) fun e w' => e = .returned (.int .i64 cv) ∧ ∃ l, w' = (w5.drewN k).drewN l := by
    by_cases hn1 : n = 1
    · subst hn1
      refine ⟨sgn3 V 1, ?_, fun k => ?_⟩
      · unfold sgn3; rw [if_neg (by omega)]; split <;> omega
      · exact cmp_some g1 0 c1' g2 0 c2' 1 V 1 (w5.drewN k) (by omega) (by omega) hV (by decide) (fun i hi => by rw [Nat.zero_add]; show w5.cell? _ = _; rw [ha3'.cell (by omega), ha4 i hi]) (fun i hi => by
          obtain rfl : i = 0 := by omega
          show w5.cell? _ = _
          rw [Nat.zero_add, hb3'.cell (by omega), hb4]; rfl)
    · refine ⟨1, by omega, fun k => ?_⟩
      have := cmp_len (some ⟨g1, 0, none⟩) (some ⟨g2, 0, none⟩) n 1 c1' c2' (w5.drewN k) (by omega) (by omega) (by omega)
      rw [if_neg (by omega)] at this
      exact this
  obtain ⟨cv, hcv, hcm⟩ := hcmp
  have x1 : w5.cell? ⟨w.heap.size, 1, none⟩ = some (.slice (some ⟨g1, 0, none⟩) n c1') := (cell_of_row w5 _ 1 _ _ (0, 0) ha5).trans rfl
  have y1 : w5.cell? ⟨w2.heap.size, 1, none⟩ = some (.slice (some ⟨g2, 0, none⟩) 1 c2') := (cell_of_row w5 _ 1 _ _ (0, 0) hb5).trans rfl
  have hbb : Below w.heap.size w w5 := HGM.out.below.trans (hb45.mono HGM.out.below.size)
  have hao : w5.cell? ⟨ba, oa, none⟩ = some (.bool an) := (hbb.cell (p := ⟨ba, oa, none⟩) la).trans HAO
  have hcv' : ¬ (cv < 0) := by omega
  have HCM := Lib.hid hcm
  have HBB := Lib.hid hbb; have HA5 := Lib.hid ha5; have HB5 := Lib.hid hb5; have HQ5 := Lib.hid hq5; have HR5 := Lib.hid hr5
  have HR1' := Lib.hid ha3'; have HR2' := Lib.hid hb3'; have HF1' := Lib.hid ha4; have HF2' := Lib.hid hb4; have HN1 := Lib.hid ha2; have HN2 := Lib.hid hb2
  have HS5 := Lib.hid hs5
  clear hw5 hb45 hs5 hq5 hr5 ha1 ha2 ha3 ha4 hb1 hb2 hb3 hb4 ha5 hb5 ha3' hb3' hcm hbb hg1l hg2l
  go_quiet ((first | (go_at_call 101; with_reducible exact Calls.quiet_of (HCM.out _))))
  obtain ⟨w6, hw6⟩ : ∃ w6, w6 = w5.drewN nq := ⟨_, rfl⟩
  rw [← hw6]
  have x6 : w6.cell? ⟨w.heap.size, 1, none⟩ = some (.slice (some ⟨g1, 0, none⟩) n c1') := by rw [hw6]; exact x1
  have y6 : w6.cell? ⟨w2.heap.size, 1, none⟩ = some (.slice (some ⟨g2, 0, none⟩) 1 c2') := by rw [hw6]; exact y1
  have a6 : w6.cell? ⟨ba, oa, none⟩ = some (.bool an) := by rw [hw6]; exact hao
  have HW6 := Lib.hid hw6
  clear hw6 x1 y1 hao HCM
  go_wp2_with fail
  refine wp_loop_rounds 1 ?_
  rw [rounds_succ]
  by_cases hn1 : n = 1
  · subst hn1
    have hw0 : wd V 0 = V := by unfold wd; simp; omega
    have k1 : w6.cell? ⟨g1, 0, none⟩ = some (.int .u64 V) := by rw [HW6.out]; show w5.cell? _ = _; rw [HR1'.out.cell (by have := HN1.out; omega), HF1'.out 0 (by omega), hw0]
    have k2 : w6.cell? ⟨g2, 0, none⟩ = some (.int .u64 1) := by rw [HW6.out]; show w5.cell? _ = _; rw [HR2'.out.cell (by have := HN2.out; omega), HF2'.out]
    clear hw0
    go_wp2_with fail
    go_quiet (fail)
    obtain ⟨q1, hq1⟩ : ∃ q1, q1 = nq := ⟨_, rfl⟩
    rw [← hq1]
    clear hq1
    go_wp2_with fail
    refine wp_loop_rounds 2 ?_
    rw [rounds_succ]
    go_wp2_with fail
    go_quiet (fail)
    go_wp2_with fail
    rw [rounds_succ]
    obtain ⟨w9, hw9⟩ : ∃ w9, w9 = (w6.drewN q1).drewN nq := ⟨_, rfl⟩
    rw [← hw9]
    have hh9 : w9.heap = w5.heap := by rw [hw9, HW6.out]; rfl
    have hl2 := HL2.out
    have hs2 := HS2.out
    have hs5 := HS5.out
    have hb9 : Below w.heap.size w w9 := by rw [hw9, HW6.out]; exact below_drewN (below_drewN (below_drewN HBB.out))
    have hA9 : w9.heap[w.heap.size]? = some (.cells #[.bool false, .slice (some ⟨g1, 0, none⟩) 1 c1'] 159 (0, 0)) := by rw [hh9]; exact HA5.out
    have hr9 : Row w9 g1 195 c1' f1' := HR1'.out.keep (by rw [hh9])
    have x9 : w9.cell? ⟨w.heap.size, 1, none⟩ = some (.slice (some ⟨g1, 0, none⟩) 1 c1') := (cell_of_row w9 _ 1 _ _ (0, 0) hA9).trans rfl
    have k9 := hr9.cell (i := 0) (by have := HN1.out; omega)
    have f9 := hr9.frozen 0
    have a9 : w9.cell? ⟨ba, oa, none⟩ = some (.bool an) := (hb9.cell (p := ⟨ba, oa, none⟩) la).trans HAO
    have hg1 : w.heap.size ≤ g1 := HGM.out.l1
    have n1 : ba ≠ g1 := by omega
    have n2 : w.heap.size ≠ g1 := fun e => HGM.out.na1 e.symm
    have n3 : zb ≠ g1 := by omega
    have hb10 : Below w.heap.size w (w9.setCell ⟨g1, 0, none⟩ (.int .u64 1)) := hb9.setCell hg1 _
    have hA10 : (w9.setCell ⟨g1, 0, none⟩ (.int .u64 1)).heap[w.heap.size]? = some (.cells #[.bool false, .slice (some ⟨g1, 0, none⟩) 1 c1'] 159 (0, 0)) := (Below.heap_setCell w9 (⟨g1, 0, none⟩ : Addr) _ _ n2).trans hA9
    have SET := Lib.hid (Int_Set_some zb 0 w.heap.size 0 g1 0 c1' 1 1 #[.bool false, .slice none 0 0] #[.bool false, .slice (some ⟨g1, 0, none⟩) 1 c1'] 159 159 false false (w9.setCell ⟨g1, 0, none⟩ (.int .u64 1)) (by decide) (by omega) (by omega) (by have := hr9.lt; simpa [World.setCell] using this) ((hb10.block _ lz).trans HZ.out) hA10 rfl rfl rfl rfl (by omega) (fun i hi => by
      obtain rfl : i = 0 := by omega
      rw [Nat.add_zero, (hr9.set 0 (.int .u64 1)).cell (by have := HN1.out; omega)]; rfl))
    have HB10 := Lib.hid hb10
    clear hw9 hh9 hb9 hA9 hr9 hb10 hA10
    go_wp2_with fail
    refine SET.out.mono ?_
    rintro e w8 ⟨rfl, s8, hnew, hch, hh⟩
    rcases hnew with ⟨h, _⟩ | ⟨_, _, g8, c8, f8, rfl, hg8, hc8, hc8', hr8, hf8⟩
    · omega
    have HH := Lib.hid hh; have HCH := Lib.hid hch; have HR8 := Lib.hid hr8; have HF8 := Lib.hid hf8
    clear hh hch hr8 hf8
    go_wp2
    go_ret
    refine ⟨rfl, g8, c8, HH.out, ?_, (Chg.of_below (HB10.out)).trans HCH.out⟩
    rw [HR8.out.cell (by omega), HF8.out 0 (by omega)]; rfl
  · have hn2 : 1 < n := by omega
    have E := Lib.hid (euclid_one w.heap.size w2.heap.size w4.heap.size (w4.heap.size + 1) g1 g2 c1' c2' n V w6 h0 hn hV (by rw [HW6.out]; exact HR1'.out.lt) (by rw [HW6.out]; exact HR2'.out.lt) (by rw [HW6.out]; exact HA5.out) (by rw [HW6.out]; exact HB5.out) (by rw [HW6.out]; exact HQ5.out) (by rw [HW6.out]; exact HR5.out)
      (fun i hi => by rw [HW6.out]; show w5.cell? _ = _; rw [Nat.zero_add, HR1'.out.cell (by have := HN1.out; omega), HF1'.out i hi]) (by rw [HW6.out]; show w5.cell? _ = _; rw [HR2'.out.cell (by have := HN2.out; omega), HF2'.out]) (by omega) (by have := HGM.out.below.size; have := HL2.out; have := HS2.out; omega) (by have := HL2.out; omega) (by have := HL2.out; have := HS2.out; omega) (by have := HL2.out; omega))
    go_wp2_with fail
    refine E.out.mono ?_
    rintro e w7 ⟨rfl, hR7, hk7, hsz7, o1, o2, o3⟩
    have hl2 := HL2.out
    have hs2 := HS2.out
    have hs5 := HS5.out
    have hs6 : w6.heap.size = w5.heap.size := by rw [HW6.out]; rfl
    have hb67 : Below w4.heap.size w6 w7 := ⟨o1, o2, o3, hsz7, fun k hk => hk7 k (by omega) (by omega) (by omega)⟩
    have r7 : w7.cell? ⟨w4.heap.size + 1, 1, none⟩ = some (.slice none 0 0) := (cell_of_row w7 _ 1 _ _ (0, 0) hR7).trans rfl
    have a7 : w7.cell? ⟨ba, oa, none⟩ = some (.bool an) := (hb67.cell (p := ⟨ba, oa, none⟩) (by show ba < _; omega)).trans a6
    have hbw6 : Below w.heap.size w w6 := by rw [HW6.out]; exact below_drewN HBB.out
    have hbw7 : Below w.heap.size w w7 := hbw6.trans (hb67.mono (by omega))
    have hB7 : w7.heap[w2.heap.size]? = some (.cells #[.bool false, .slice (some ⟨g2, 0, none⟩) 1 c2'] 159 (0, 0)) := by
      rw [hb67.block _ hl2, HW6.out]; exact HB5.out
    have hg2l : g2 < w4.heap.size := by
      obtain ⟨_, _, _, _, h, _⟩ := HGM.out.hb
      exact h.lt
    have k2 : w7.cell? ⟨g2, 0 + 0, none⟩ = some (.int .u64 1) := by
      rw [hb67.cell (p := ⟨g2, 0 + 0, none⟩) hg2l, HW6.out]; show w5.cell? _ = _
      rw [HR2'.out.cell (by have := HN2.out; omega), HF2'.out]
    have SET := Lib.hid (Int_Set_some zb 0 w2.heap.size 0 g2 0 c2' 1 1 #[.bool false, .slice none 0 0] #[.bool false, .slice (some ⟨g2, 0, none⟩) 1 c2'] 159 159 false false w7 (by decide) (by omega) (by omega) (by have := hb67.size; omega) ((hbw7.block _ lz).trans HZ.out) hB7 rfl rfl rfl rfl (by omega) (fun i hi => by
      obtain rfl : i = 0 := by omega
      exact k2))
    have HBW7 := Lib.hid hbw7
    clear hR7 hk7 hsz7 o1 o2 o3 hb67 hbw6 hbw7 hB7 k2 hg2l
    go_wp2_with fail
    refine SET.out.mono ?_
    rintro e w8 ⟨rfl, s8, hnew, hch, hh⟩
    rcases hnew with ⟨h, _⟩ | ⟨_, _, g8, c8, f8, rfl, hg8, hc8, hc8', hr8, hf8⟩
    · omega
    have HH := Lib.hid hh; have HCH := Lib.hid hch; have HR8 := Lib.hid hr8; have HF8 := Lib.hid hf8
    clear hh hch hr8 hf8
    go_wp2
    go_ret
    refine ⟨rfl, g8, c8, HH.out, ?_, (Chg.of_below (HBW7.out)).trans HCH.out⟩
    rw [HR8.out.cell (by omega), HF8.out 0 (by omega)]; rfl

end Go.Proofs.YtjkmppdmejgjiaaGreatDoor

/- Walks: Rat.norm of a whole number. -/
set_option linter.unusedVariables false
set_option linter.unusedSimpArgs false
namespace Go.Proofs.YtjkmppdmejgjiaaGreatDoor
open Go.RowKit
open Num

set_option maxRecDepth 100000 in
set_option maxHeartbeats 400000 in
theorem norm_one (rb gx cx gy cy n V : Nat) (an bn : Bool) (w : World) (h0 : 0 < n) (hn : n ≤ 16777216) (hV : V < 2 ^ (64 * n)) (hV0 : 0 < V) (hgx : gx < w.heap.size) (hgy : gy < w.heap.size) (hxr : gx ≠ rb) (hyr : gy ≠ rb)
    (hz : w.heap[rb]? = some (.cells #[.bool an, .slice (some ⟨gx, 0, none⟩) n cx, .bool bn, .slice (some ⟨gy, 0, none⟩) 1 cy] 171 (0, 0)))
    (hc : ∀ i, i < n → w.cell? ⟨gx, 0 + i, none⟩ = some (.int .u64 (wd V i))) (hcy : w.cell? ⟨gy, 0, none⟩ = some (.int .u64 1)) :
    Calls Tryz.prog 105 #[.pointer (some ⟨rb, 0, none⟩)] w fun e w' => e = .returned (.pointer (some ⟨rb, 0, none⟩)) ∧ w'.heap[rb]? = some (.cells #[.bool an, .slice (some ⟨gx, 0, none⟩) n cx, .bool false, .slice (some ⟨gy, 0, none⟩) 1 cy] 171 (0, 0)) ∧ Chg rb w w' := by
  have lr := (Array.getElem?_eq_some_iff.1 hz).1
  have z0 := (cell_of_row w _ 0 _ _ (0, 0) hz).trans rfl
  have z1 := (cell_of_row w _ 1 _ _ (0, 0) hz).trans rfl
  have z2 := (cell_of_row w _ 2 _ _ (0, 0) hz).trans rfl
  have z3 := (cell_of_row w _ 3 _ _ (0, 0) hz).trans rfl
  have f0 : ∀ i, w.frozen? ⟨rb, i, none⟩ = false := fun i => by simp [World.frozen?, hz]
  have HZ := Lib.hid hz; have HC := Lib.hid hc; have HCY := Lib.hid hcy
  clear hz hc hcy
  go_enter_defers Tryz.func105, Tryz.ntmps105
  go_wp2_with fail
  refine (getStack_any _).mono ?_
  rintro e w1 ⟨rfl, rfl⟩
  obtain ⟨w1, hw1⟩ : ∃ w1, w1 = w.alloc (.cells #[.pointer none] 199) := ⟨_, rfl⟩
  rw [← hw1]
  have hb1 : Below w.heap.size w w1 := by rw [hw1]; exact (Below.refl _ _).alloc (Nat.le_refl _) _
  have hs1 : w1.heap.size = w.heap.size + 1 := by rw [hw1]; simp
  have hz1 := (hb1.block _ lr).trans HZ.out
  have hst1 : w1.heap[w.heap.size]? = some (.cells #[.pointer none] 199 (0, 0)) := by rw [hw1]; exact heap_alloc_new _ _
  have y0 := (cell_of_row w1 _ 0 _ _ (0, 0) hz1).trans rfl
  have y2 := (cell_of_row w1 _ 2 _ _ (0, 0) hz1).trans rfl
  have g1 : ∀ i, w1.frozen? ⟨rb, i, none⟩ = false := fun i => by simp [World.frozen?, hz1]
  have HB1 := Lib.hid hb1; have HS1 := Lib.hid hs1; have HZ1 := Lib.hid hz1; have HST1 := Lib.hid hst1
  clear hw1 hb1 hs1 hz1 hst1
  go_wp2_with fail
  obtain ⟨w2, hw2⟩ : ∃ w2, w2 = (w1.setCell ⟨rb, 0, none⟩ (.bool false)).setCell ⟨rb, 2, none⟩ (.bool false) := ⟨_, rfl⟩
  rw [← hw2]
  have hz2 : w2.heap[rb]? = some (.cells #[.bool false, .slice (some ⟨gx, 0, none⟩) n cx, .bool false, .slice (some ⟨gy, 0, none⟩) 1 cy] 171 (0, 0)) := by
    rw [hw2]; exact set1 (i := 2) (x := .bool false) (set1 (i := 0) (x := .bool false) HZ1.out)
  have hs2 : w2.heap.size = w.heap.size + 1 := by rw [hw2]; simpa [World.setCell] using HS1.out
  have hch2 : Chg rb w w2 := by rw [hw2]; exact ((Chg.of_below HB1.out).set _ _).set _ _
  have hst2 : w2.heap[w.heap.size]? = some (.cells #[.pointer none] 199 (0, 0)) := by
    rw [hw2, Below.heap_setCell _ _ _ _ (by show w.heap.size ≠ rb; omega), Below.heap_setCell _ _ _ _ (by show w.heap.size ≠ rb; omega)]; exact HST1.out
  have hz3 : (w2.drew.alloc (.cells #[.bool false, .slice none 0 0] 159)).heap[w2.heap.size]? = some (.cells #[.bool false, .slice none 0 0] 159 (0, 0)) := heap_alloc_new w2.drew _
  have hb3 : Below w2.heap.size w2 (w2.drew.alloc (.cells #[.bool false, .slice none 0 0] 159)) := (below_undrewN (n := 0) ((Below.refl _ _).drew)).alloc (Nat.le_refl _) _
  have hr3 := (hb3.block rb (by omega)).trans hz2
  have HL := Lib.hid (lehmer_one w2.heap.size rb 0 rb 2 gx 0 cx gy 0 cy n V 171 171 _ _ false false (w2.drew.alloc (.cells #[.bool false, .slice none 0 0] 159)) h0 hn hV hV0 (by have := hb3.size; omega) (by have := hb3.size; omega) hz3 hr3 rfl rfl hr3 rfl rfl
    (fun i hi => by rw [hb3.cell (p := ⟨gx, 0 + i, none⟩) (by show gx < _; omega), hch2.cell (p := ⟨gx, 0 + i, none⟩) hgx hxr]; exact HC.out i hi) (by rw [hb3.cell (p := ⟨gy, 0, none⟩) (by show gy < _; omega), hch2.cell (p := ⟨gy, 0, none⟩) hgy hyr]; exact HCY.out))
  have HN := Lib.hid (NewInt_zero w2.drew)
  have HS2 := Lib.hid hs2; have HCH2 := Lib.hid hch2; have HST2 := Lib.hid hst2; have HZ2 := Lib.hid hz2; have HB3 := Lib.hid hb3
  clear hw2 hz2 hs2 hch2 hst2 hz3 hb3 hr3 y0 y2 g1 z0 z1 z2 z3 f0
  refine wp_region_noPanic ?_
  go_region_law (first | (go_simp; go_at_call 125; refine HN.out.mono ?_; rintro e w3 ⟨rfl, rfl⟩) | (go_simp; go_at_call 126; refine HL.out.mono ?_; rintro e w4 ⟨rfl, g4, c4, h4, k4, ch4⟩; have H4 := Lib.hid h4; have K4 := Lib.hid k4; have CH4 := Lib.hid ch4; clear h4 k4 ch4))
  all_goals refine NoPanic.normal ?_
  all_goals go_wp2_with fail
  all_goals (
    refine (intOne_any _).mono ?_
    rintro e w5 ⟨rfl, hw5⟩
    have hs2 := HS2.out
    have hsz4 : w2.heap.size + 1 ≤ w4.heap.size := by have := CH4.out.size; simpa using this
    have hb45 : Below w4.heap.size w4 w5 := by rw [hw5]; exact ((Below.refl _ _).alloc (Nat.le_refl _) _).alloc (by simp) _
    have hI5 : w5.heap[w4.heap.size + 1]? = some (.cells #[.bool false, .slice (some ⟨w4.heap.size, 0, none⟩) 1 1] 159 (0, 0)) := by rw [hw5]; exact heap2_1 _ _ _
    have hk5 : w5.cell? ⟨w4.heap.size, 0, none⟩ = some (.int .u64 1) := by rw [hw5]; exact (cell_of_row _ _ 0 _ _ (0, 0) (heap2_0 _ _ _)).trans rfl
    have h45 := (hb45.block _ (Array.getElem?_eq_some_iff.1 H4.out).1).trans H4.out
    have hg4 : g4 < w4.heap.size := by
      have := K4.out
      rcases Nat.lt_or_ge g4 w4.heap.size with h | h
      · exact h
      · simp [World.cell?, Array.getElem?_eq_none h] at this
    have hk45 : w5.cell? ⟨g4, 0, none⟩ = some (.int .u64 1) := (hb45.cell (p := ⟨g4, 0, none⟩) hg4).trans K4.out
    have hr4 : w4.heap[rb]? = some (.cells #[.bool false, .slice (some ⟨gx, 0, none⟩) n cx, .bool false, .slice (some ⟨gy, 0, none⟩) 1 cy] 171 (0, 0)) := by
      rw [CH4.out.block rb (by have := HB3.out.size; omega) (by omega), HB3.out.block rb (by omega)]; exact HZ2.out
    have hr5 := (hb45.block rb (by omega)).trans hr4
    have hst5 : w5.heap[w.heap.size]? = some (.cells #[.pointer none] 199 (0, 0)) := by
      rw [hb45.block _ (by omega), CH4.out.block _ (by have := HB3.out.size; omega) (by omega), HB3.out.block _ (by omega)]; exact HST2.out
    have hch5 : Chg rb w w5 := by
      have c1 : Chg rb w (w2.drew.alloc (.cells #[.bool false, .slice none 0 0] 159)) := HCH2.out.drew.alloc _
      have c2 : Chg rb w w4 := ⟨CH4.out.os.trans c1.os, CH4.out.tape.trans c1.tape, CH4.out.output.trans c1.output, Nat.le_trans c1.size CH4.out.size, fun i hi hg => (CH4.out.block i (by have := c1.size; omega) (by omega)).trans (c1.block i hi hg)⟩
      exact ⟨hb45.os.trans c2.os, hb45.tape.trans c2.tape, hb45.output.trans c2.output, Nat.le_trans c2.size hb45.size, fun i hi hg => (hb45.block i (by have := c2.size; omega)).trans (c2.block i hi hg)⟩
    have HCM := Lib.hid (Cmp_same1 w2.heap.size (w4.heap.size + 1) g4 w4.heap.size c4 1 1 159 159 w5 (by decide) h45 hI5 (by omega) hk45 hk5)
    have HR5 := Lib.hid hr5; have HST5 := Lib.hid hst5; have HCH5 := Lib.hid hch5
    clear hw5 hb45 hI5 hk5 h45 hg4 hk45 hr4 hr5 hst5 hch5 hs2 hsz4
    go_wp2_with fail
    refine HCM.out.mono ?_
    rintro e w6 ⟨rfl, kk, hw6⟩
    have hr6 : w6.heap[rb]? = some (.cells #[.bool false, .slice (some ⟨gx, 0, none⟩) n cx, .bool false, .slice (some ⟨gy, 0, none⟩) 1 cy] 171 (0, 0)) := by rw [hw6]; exact HR5.out
    have hst6 : w6.heap[w.heap.size]? = some (.cells #[.pointer none] 199 (0, 0)) := by rw [hw6]; exact HST5.out
    have hch6 : Chg rb w w6 := by rw [hw6]; exact HCH5.out.drewN kk
    have y0 := (cell_of_row w6 _ 0 _ _ (0, 0) hr6).trans rfl
    have g1 : ∀ i, w6.frozen? ⟨rb, i, none⟩ = false := fun i => by simp [World.frozen?, hr6]
    have HR6 := Lib.hid hr6; have HST6 := Lib.hid hst6; have HCH6 := Lib.hid hch6
    clear hw6 hr6 hst6 hch6
    go_wp2
    refine leaves_cons (f := 76) (args := #[.pointer (some ⟨w.heap.size, 0, none⟩)]) (by simp) (by simp [go_sem]) ?_
    refine (free_deferred ⟨w.heap.size, 0, none⟩ .returning _ ?_).mono ?_
    · exact (cell_of_row _ _ 0 _ _ (0, 0) ((Below.heap_setCell w6 (⟨rb, 0, none⟩ : Addr) _ w.heap.size (by show w.heap.size ≠ rb; omega)).trans HST6.out)).trans rfl
    rintro e u' w'' ⟨rfl, rfl, rfl⟩
    exact ⟨_, results_tmp rfl _ _ _, rfl, set1 (i := 0) (x := .bool an) HR6.out, HCH6.out.set _ _⟩)

end Go.Proofs.YtjkmppdmejgjiaaGreatDoor

/- Plain arithmetic: signed magnitudes compared; an integer against a float, by what they are worth. No program in sight. -/
namespace Go.Proofs.YtjkmppdmejgjiaaGreatDoor.Num

/-- a sign and a magnitude -/
def sI (n : Bool) (V : Nat) : Int := if n then -(V : Int) else (V : Int)
def icmp (a b : Int) : Int := if a < b then -1 else if b < a then 1 else 0
/-- is a finite float whole? -/
def fall (B : Nat) : Bool := decide (0 ≤ fplace B) || decide (fman B % 2 ^ (-fplace B).toNat = 0)
/-- an integer against a finite float -/
def fcmp (x : Int) (B : Nat) : Int := icmp (x * ((2 ^ (-fplace B).toNat : Nat) : Int)) (sI (fneg B) (fman B * 2 ^ (fplace B).toNat))

theorem icmp_swap (a b : Int) : icmp b a = -icmp a b := by
  unfold icmp; split <;> split <;> first | rfl | omega
theorem icmp_neg (a b : Int) : icmp (-a) (-b) = -icmp a b := by
  unfold icmp; split <;> split <;> first | rfl | omega | (split <;> first | rfl | omega)
theorem icmp_bound (a b : Int) : -1 ≤ icmp a b ∧ icmp a b ≤ 1 := by
  unfold icmp; split
  · omega
  · split <;> omega
theorem icmp_mul (a b : Int) (P : Nat) (hP : 0 < P) : icmp (a * (P : Int)) (b * (P : Int)) = icmp a b := by
  have hp : (0 : Int) < (P : Int) := by omega
  have h1 : a * (P : Int) < b * (P : Int) ↔ a < b := ⟨fun h => Int.lt_of_mul_lt_mul_right h (by omega), fun h => Int.mul_lt_mul_of_pos_right h hp⟩
  have h2 : b * (P : Int) < a * (P : Int) ↔ b < a := ⟨fun h => Int.lt_of_mul_lt_mul_right h (by omega), fun h => Int.mul_lt_mul_of_pos_right h hp⟩
  unfold icmp
  simp only [h1, h2]
theorem sI_neg (n : Bool) (V : Nat) : sI (!n) V = -sI n V := by cases n <;> simp [sI]
theorem sI_mul (n : Bool) (V P : Nat) : sI n (V * P) = sI n V * (P : Int) := by
  cases n
  · simp [sI]
  · simp [sI, Int.neg_mul]
theorem sI_and (n : Bool) (V : Nat) : sI (n && decide (0 < V)) V = sI n V := by
  cases n
  · simp
  · by_cases h : 0 < V
    · simp [h]
    · obtain rfl : V = 0 := by omega
      simp [sI]
/-- the order of signed magnitudes, by the signs and the magnitudes -/
theorem icmp_signed (xn yn : Bool) (X Y : Nat) (hx : xn = true → 0 < X) (hy : yn = true → 0 < Y) :
    icmp (sI xn X) (sI yn Y) = if xn = yn then (if xn then -sgn3 X Y else sgn3 X Y) else if xn then -1 else 1 := by
  cases xn <;> cases yn
  · simp only [sI, icmp, sgn3, Bool.false_eq_true, if_false, if_true]
    split <;> split <;> first | rfl | omega | (split <;> first | rfl | omega)
  · have := hy rfl
    simp [sI, icmp]
    split
    · omega
    · split
      · rfl
      · omega
  · have := hx rfl
    simp [sI, icmp]
    omega
  · simp only [sI, icmp, sgn3, if_true]
    split <;> split <;> first | rfl | omega | (split <;> first | rfl | omega)

theorem cmp_scale (x : Int) (q r P : Nat) (hr : r < P) : icmp (x * (P : Int)) ((P * q + r : Nat) : Int) = if x = (q : Int) then (if r = 0 then 0 else -1) else icmp x (q : Int) := by
  have hP : (0 : Int) ≤ (P : Int) := by omega
  have e : ((P * q + r : Nat) : Int) = (q : Int) * (P : Int) + (r : Int) := by
    rw [Int.natCast_add, Int.natCast_mul, Int.mul_comm]
  rw [e]
  rcases Int.lt_trichotomy x (q : Int) with h | h | h
  · rw [if_neg (by omega)]
    have h1 : (x + 1) * (P : Int) ≤ (q : Int) * (P : Int) := Int.mul_le_mul_of_nonneg_right (by omega) hP
    rw [Int.add_mul, Int.one_mul] at h1
    generalize x * (P : Int) = a at *
    generalize (q : Int) * (P : Int) = b at *
    unfold icmp
    rw [if_pos (by omega), if_pos h]
  · rw [if_pos h, h]
    generalize (q : Int) * (P : Int) = b at *
    unfold icmp
    by_cases h0 : r = 0
    · rw [if_pos h0, if_neg (by omega), if_neg (by omega)]
    · rw [if_neg h0, if_pos (by omega)]
  · rw [if_neg (by omega)]
    have h1 : ((q : Int) + 1) * (P : Int) ≤ x * (P : Int) := Int.mul_le_mul_of_nonneg_right (by omega) hP
    rw [Int.add_mul, Int.one_mul] at h1
    generalize x * (P : Int) = a at *
    generalize (q : Int) * (P : Int) = b at *
    unfold icmp
    rw [if_neg (by omega), if_pos (by omega), if_neg (by omega), if_pos h]
theorem cmp_scale_neg (x : Int) (q r P : Nat) (hr : r < P) : icmp (x * (P : Int)) (-((P * q + r : Nat) : Int)) = if x = -(q : Int) then (if r = 0 then 0 else 1) else icmp x (-(q : Int)) := by
  have h := cmp_scale (-x) q r P hr
  have e1 : x * (P : Int) = -(-x * (P : Int)) := by rw [Int.neg_mul, Int.neg_neg]
  rw [e1, icmp_neg, h]
  have e2 : icmp x (-(q : Int)) = -icmp (-x) (q : Int) := by
    have := icmp_neg (-x) (q : Int)
    rwa [Int.neg_neg] at this
  rw [e2]
  by_cases hx : x = -(q : Int)
  · rw [if_pos (by omega), if_pos hx]
    split <;> rfl
  · rw [if_neg (by omega), if_neg hx]

/-- the reference's way: by the whole part first -/
theorem fcmp_whole (x : Int) (B : Nat) : (if icmp x (sI (fneg B) (fwhole B)) ≠ 0 ∨ fall B = true then icmp x (sI (fneg B) (fwhole B)) else if fneg B then 1 else -1) = fcmp x B := by
  unfold fcmp fall fwhole
  by_cases hp : 0 ≤ fplace B
  · have e : (-fplace B).toNat = 0 := by omega
    simp [hp, e]
  · have e : (fplace B).toNat = 0 := by omega
    rw [e]
    simp only [hp, if_false, decide_false, Bool.false_or, decide_eq_true_eq, Nat.pow_zero, Nat.mul_one]
    obtain ⟨P, hP⟩ : ∃ P, P = 2 ^ (-fplace B).toNat := ⟨_, rfl⟩
    have hP0 : 0 < P := by rw [hP]; exact Nat.two_pow_pos _
    rw [← hP]
    have hM : fman B = P * (fman B / P) + fman B % P := (Nat.div_add_mod _ _).symm
    have hr : fman B % P < P := Nat.mod_lt _ hP0
    generalize fman B / P = q at *
    generalize fman B % P = r at *
    rw [hM]
    cases fneg B
    · simp only [sI, Bool.false_eq_true, if_false]
      rw [cmp_scale x q r P hr]
      by_cases hx : x = (q : Int)
      · subst hx
        have h0 : icmp (q : Int) (q : Int) = 0 := by unfold icmp; simp
        rw [h0]
        by_cases hr0 : r = 0 <;> simp [hr0]
      · have h0 : icmp x (q : Int) ≠ 0 := by
          unfold icmp; split
          · omega
          · split <;> omega
        simp [hx, h0]
    · simp only [sI, if_true]
      rw [cmp_scale_neg x q r P hr]
      by_cases hx : x = -(q : Int)
      · subst hx
        have h0 : icmp (-(q : Int)) (-(q : Int)) = 0 := by unfold icmp; simp
        rw [h0]
        by_cases hr0 : r = 0 <;> simp [hr0]
      · have h0 : icmp x (-(q : Int)) ≠ 0 := by
          unfold icmp; split
          · omega
          · split <;> omega
        simp [hx, h0]
/-- the package's way: by a fraction m / 2^k that is worth the float -/
theorem fcmp_frac (x : Int) (B m k t : Nat) (hm : m * 2 ^ t = fman B) (hp : ¬ 0 ≤ fplace B) (hk : k + t = (-fplace B).toNat) :
    icmp (x * ((2 ^ k : Nat) : Int)) (sI (fneg B) m) = fcmp x B := by
  unfold fcmp
  have e : (fplace B).toNat = 0 := by omega
  rw [e, Nat.pow_zero, Nat.mul_one, ← hm, ← hk, Nat.pow_add, sI_mul, Int.natCast_mul, ← Int.mul_assoc, icmp_mul _ _ _ (Nat.two_pow_pos t)]
theorem fcmp_big (x : Int) (B k : Nat) (hk : fplace B = (k : Int)) : icmp x (sI (fneg B) (fman B * 2 ^ k)) = fcmp x B := by
  unfold fcmp
  have e : (fplace B).toNat = k := by omega
  have e2 : (-fplace B).toNat = 0 := by omega
  rw [e, e2]; simp

end Go.Proofs.YtjkmppdmejgjiaaGreatDoor.Num

/- Plain: a double against 0; what an order tells; the value of a float. -/
set_option linter.unusedVariables false
set_option linter.unusedSimpArgs false
namespace Go.Proofs.YtjkmppdmejgjiaaGreatDoor
open Go.RowKit
open Num

theorem read_zero : Ieee.double.read 0 = .number false 0 (-1074) := by decide
theorem lt_zero (B : Nat) (hB : B < 18446744073709551616) (hf : fexp B ≠ 2047) (hM : 0 < fman B) : (Ieee.double.order B 0 == some .lt) = fneg B := by
  unfold Ieee.Format.order
  rw [read_double B hB hf, read_zero, signed_cmp]
  cases hn : fneg B
  · rw [signed_false, signed_false, Nat.zero_mul]
    have : compare ((fman B * 2 ^ (fplace B - min (fplace B) (-1074)).toNat : Nat) : Int) ((0 : Nat) : Int) ≠ .lt := by
      intro h
      rw [Int.compare_eq_lt] at h
      have := Int.natCast_nonneg (fman B * 2 ^ (fplace B - min (fplace B) (-1074)).toNat)
      omega
    revert this
    generalize compare ((fman B * 2 ^ (fplace B - min (fplace B) (-1074)).toNat : Nat) : Int) ((0 : Nat) : Int) = c
    intro this
    cases c <;> simp_all
  · rw [signed_true, signed_false, Nat.zero_mul]
    have hp : 0 < fman B * 2 ^ (fplace B - min (fplace B) (-1074)).toNat := Nat.mul_pos hM (Nat.two_pow_pos _)
    have : compare (-((fman B * 2 ^ (fplace B - min (fplace B) (-1074)).toNat : Nat) : Int)) ((0 : Nat) : Int) = .lt := by
      rw [Int.compare_eq_lt]
      generalize fman B * 2 ^ (fplace B - min (fplace B) (-1074)).toNat = x at *
      omega
    rw [this]; rfl

theorem lt_zero0 (B : Nat) (hB : B < 18446744073709551616) (hf : fexp B ≠ 2047) (hM : fman B = 0) : (Ieee.double.order B 0 == some .lt) = false := by
  unfold Ieee.Format.order
  rw [read_double B hB hf, read_zero, signed_cmp, hM]
  cases fneg B
  · rw [signed_false, signed_false, Nat.zero_mul, Nat.zero_mul]; decide
  · rw [signed_true, signed_false, Nat.zero_mul, Nat.zero_mul]; decide

/-- the token of a comparison's number -/
def tokOf (op : Nat) : Int := if op = 13 then 37 else if op = 14 then 38 else if op = 15 then 33 else if op = 16 then 36 else if op = 17 then 34 else 35
/-- what an order tells to an operator -/
def opHolds (op : Nat) (c : Int) : Bool := if op = 13 then c == 0 else if op = 14 then c != 0 else if op = 15 then decide (c < 0) else if op = 16 then decide (c ≤ 0) else if op = 17 then decide (0 < c) else decide (0 ≤ c)

/-- an integer against any float: what is no number, and +Inf, are above all -/
def fcAll (x : Int) (B : Nat) : Int := if fexp B = 2047 then (if ffrac B ≠ 0 then -1 else if fneg B then 1 else -1) else fcmp x B

theorem inf_gt (B : Nat) (hB : B < 18446744073709551616) (hf : fexp B = 2047) (h0 : ffrac B = 0) : (FloatKind.f64.format.order B 0 == some .gt) = !fneg B := by
  show (Ieee.double.order B 0 == some .gt) = !fneg B
  unfold Ieee.Format.order
  rw [read_inf B hB hf h0, read_zero]
  cases fneg B <;> rfl
theorem nan_ne (B : Nat) (hB : B < 18446744073709551616) : (FloatKind.f64.format.order B B != some .eq) = decide (fexp B = 2047 ∧ ffrac B ≠ 0) := by
  show (Ieee.double.order B B != some .eq) = _
  rw [order_self B hB]
  split <;> simp_all

/-- a value that is a float -/
abbrev valFloat (B : Nat) : Value := .agg #[.int .i64 3, .bool false, .slice none 0 0, .int .u64 B, .string ⟨#[]⟩, .slice none 0 0]

theorem below_al0 (w : World) (O : Obj) : Below w.heap.size w (w.alloc O) := (Below.refl _ _).alloc (Nat.le_refl _) _
end Go.Proofs.YtjkmppdmejgjiaaGreatDoor
