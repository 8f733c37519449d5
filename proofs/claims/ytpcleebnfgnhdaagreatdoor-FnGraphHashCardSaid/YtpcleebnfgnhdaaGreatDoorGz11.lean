import Derived.Test.YtpcleebnfgnhdaaGreatDoorGz9
import Derived.Test.YtpcleebnfgnhdaaGreatDoorGz10
import Derived.Defers
import Derived.Test.YtpcleebnfgnhdaaGreatDoorGz6
/- Walks: lehmerGCD by 1. -/
set_option linter.unusedVariables false
set_option linter.unusedSimpArgs false
namespace Go.Proofs.YtpcleebnfgnhdaaGreatDoor
open Go.RowKit
open Num

/-- what the walk of lehmerGCD has laid ahead of its loops: A and B -/
structure GM (w w4 : World) (A Bk g1 g2 n V : Nat) (zb : Nat) : Prop where
  below : Below w.heap.size w w4
  ha : ∃ c1 f1, w4.heap[A]? = some (.cells #[.bool false, .slice (some ⟨g1, 0, none⟩) n c1] 212 (0, 0)) ∧ n ≤ c1 ∧ Row w4 g1 246 c1 f1 ∧ ∀ i, i < n → f1 i = .int .u64 (wd V i)
  hb : ∃ c2 f2, w4.heap[Bk]? = some (.cells #[.bool false, .slice (some ⟨g2, 0, none⟩) 1 c2] 212 (0, 0)) ∧ 1 ≤ c2 ∧ Row w4 g2 246 c2 f2 ∧ f2 0 = .int .u64 1
  la : w.heap.size ≤ A
  lb : w.heap.size ≤ Bk
  l1 : w.heap.size ≤ g1
  l2 : w.heap.size ≤ g2
  nab : A ≠ Bk
  na1 : g1 ≠ A
  nb1 : g1 ≠ Bk
  na2 : g2 ≠ A
  nb2 : g2 ≠ Bk
  n12 : g1 ≠ g2

theorem GM.keep {w w4 w5 : World} {A Bk g1 g2 n V zb : Nat} (h : GM w w4 A Bk g1 g2 n V zb) (hb : Below w4.heap.size w4 w5) : GM w w5 A Bk g1 g2 n V zb := by
  obtain ⟨c1, f1, a1, a2, a3, a4⟩ := h.ha
  obtain ⟨c2, f2, b1, b2, b3, b4⟩ := h.hb
  exact ⟨h.below.trans (hb.mono h.below.size), ⟨c1, f1, (hb.block _ (Array.getElem?_eq_some_iff.1 a1).1).trans a1, a2, a3.below hb a3.lt, a4⟩, ⟨c2, f2, (hb.block _ (Array.getElem?_eq_some_iff.1 b1).1).trans b1, b2, b3.below hb b3.lt, b4⟩, h.la, h.lb, h.l1, h.l2, h.nab, h.na1, h.nb1, h.na2, h.nb2, h.n12⟩

/-- one step of Euclid, by 1 -/
theorem euclid_one (A Bk Q R g1 g2 c1 c2 n V : Nat) (w : World) (h0 : 0 < n) (hn : n ≤ 16777216) (hV : V < 2 ^ (64 * n)) (hg1 : g1 < w.heap.size) (hg2 : g2 < w.heap.size)
    (hA : w.heap[A]? = some (.cells #[.bool false, .slice (some ⟨g1, 0, none⟩) n c1] 212 (0, 0))) (hB : w.heap[Bk]? = some (.cells #[.bool false, .slice (some ⟨g2, 0, none⟩) 1 c2] 212 (0, 0)))
    (hQ : w.heap[Q]? = some (.cells #[.bool false, .slice none 0 0] 212 (0, 0))) (hR : w.heap[R]? = some (.cells #[.bool false, .slice none 0 0] 212 (0, 0)))
    (hc : ∀ i, i < n → w.cell? ⟨g1, 0 + i, none⟩ = some (.int .u64 (wd V i))) (hcy : w.cell? ⟨g2, 0, none⟩ = some (.int .u64 1))
    (n1 : Q ≠ R) (n2 : Q ≠ A) (n3 : Q ≠ Bk) (n4 : R ≠ A) (n5 : R ≠ Bk) :
    Calls Tryz.prog 213 #[.pointer (some ⟨A, 0, none⟩), .pointer (some ⟨Bk, 0, none⟩), .pointer none, .pointer none, .pointer (some ⟨Q, 0, none⟩), .pointer (some ⟨R, 0, none⟩), .bool false] w fun e w' =>
      e = .returned (.tuple #[.pointer (some ⟨Bk, 0, none⟩), .pointer (some ⟨R, 0, none⟩), .pointer (some ⟨A, 0, none⟩), .pointer none, .pointer none]) ∧ w'.heap[R]? = some (.cells #[.bool false, .slice none 0 0] 212 (0, 0)) ∧
        (∀ k, k < w.heap.size → k ≠ Q → k ≠ R → w'.heap[k]? = w.heap[k]?) ∧ w.heap.size ≤ w'.heap.size ∧ w'.os = w.os ∧ w'.tape = w.tape ∧ w'.output = w.output := by
  have HQR := Lib.hid (QuoRem_one Q R A 0 Bk 0 g1 0 c1 g2 0 c2 n V false false false false _ _ _ _ _ _ w h0 hn hV hg1 hg2 hQ hR hA rfl rfl hB rfl rfl hc hcy n1 n2 n3 n4 n5)
  clear hA hB hQ hR hc hcy
  go_enter Tryz.func213, Tryz.ntmps213
  go_wp2_with fail
  refine HQR.out.mono ?_
  rintro e w2 ⟨rfl, c, f, q1, q2, q3, q4, q5, q6, q7, q8, q9, q10, q11⟩
  have H := Lib.hid (And.intro q2 (And.intro q7 (And.intro q8 (And.intro q9 (And.intro q10 q11)))))
  clear q1 q2 q3 q4 q5 q6 q7 q8 q9 q10 q11
  go_wp2
  exact bodyPost_ret (v := .tuple #[.pointer (some ⟨Bk, 0, none⟩), .pointer (some ⟨R, 0, none⟩), .pointer (some ⟨A, 0, none⟩), .pointer none, .pointer none]) (by simp [results, Tryz.results213, go_sem]) rfl ⟨rfl, H.out⟩

set_option maxRecDepth 100000 in
theorem lehmer_one (zb ba oa bb ob gx px cx gy py cy n V Ta Tb : Nat) (ca cb : Array Value) (an bn : Bool) (w : World) (h0 : 0 < n) (hn : n ≤ 16777216) (hV : V < 2 ^ (64 * n)) (hV0 : 0 < V)
    (hgx : gx < w.heap.size) (hgy : gy < w.heap.size)
    (hz : w.heap[zb]? = some (.cells #[.bool false, .slice none 0 0] 212 (0, 0)))
    (ha : w.heap[ba]? = some (.cells ca Ta (0, 0))) (a0 : ca[oa]? = some (.bool an)) (a1 : ca[oa + 1]? = some (.slice (some ⟨gx, px, none⟩) n cx))
    (hb : w.heap[bb]? = some (.cells cb Tb (0, 0))) (b0 : cb[ob]? = some (.bool bn)) (b1 : cb[ob + 1]? = some (.slice (some ⟨gy, py, none⟩) 1 cy))
    (hc : ∀ i, i < n → w.cell? ⟨gx, px + i, none⟩ = some (.int .u64 (wd V i))) (hcy : w.cell? ⟨gy, py, none⟩ = some (.int .u64 1)) :
    Calls Tryz.prog 195 #[.pointer (some ⟨zb, 0, none⟩), .pointer none, .pointer none, .pointer (some ⟨ba, oa, none⟩), .pointer (some ⟨bb, ob, none⟩)] w fun e w' =>
      e = .returned (.pointer (some ⟨zb, 0, none⟩)) ∧ ∃ g c, w'.heap[zb]? = some (.cells #[.bool false, .slice (some ⟨g, 0, none⟩) 1 c] 212 (0, 0)) ∧ w'.cell? ⟨g, 0, none⟩ = some (.int .u64 1) ∧ Chg zb w w' := by
  have lz := (Array.getElem?_eq_some_iff.1 hz).1
  have la := (Array.getElem?_eq_some_iff.1 ha).1
  have lb := (Array.getElem?_eq_some_iff.1 hb).1
  have HZ := Lib.hid hz; have HA := Lib.hid ha; have HB := Lib.hid hb
  have HC := Lib.hid hc; have HCY := Lib.hid hcy
  have HA0 := Lib.hid a0; have HA1 := Lib.hid a1; have HB0 := Lib.hid b0; have HB1 := Lib.hid b1
  have HAO : Hid (w.cell? ⟨ba, oa, none⟩ = some (.bool an)) := (cell_of_row w _ _ _ _ (0, 0) ha).trans a0
  clear hz ha hb hc hcy a0 a1 b0 b1
  go_enter Tryz.func195, Tryz.ntmps195
  go_wp2_with fail
  obtain ⟨w1, hw1⟩ : ∃ w1, w1 = w.alloc (.cells #[.bool false, .slice none 0 0] 212) := ⟨_, rfl⟩
  rw [← hw1]
  have hb1 : Below w.heap.size w w1 := by rw [hw1]; exact (Below.refl _ _).alloc (Nat.le_refl _) _
  have hs1 : w1.heap.size = w.heap.size + 1 := by rw [hw1]; simp
  have hq1 : w1.heap[w.heap.size]? = some (.cells #[.bool false, .slice none 0 0] 212 (0, 0)) := by rw [hw1]; exact heap_alloc_new _ _
  refine (IntAbs_some w.heap.size ba oa gx px cx n V ca 212 Ta false an w1 hV h0 (by omega) (by omega) hq1 ((hb1.block _ la).trans HA.out) HA0.out HA1.out (by omega) (fun i hi => (hb1.cell (p := ⟨gx, px + i, none⟩) hgx).trans (HC.out i hi))).mono ?_
  rintro e w2 ⟨rfl, g1, c1, f1, hh1, hg1, hn1, hr1, hf1, hch1⟩
  have hb2 : Below w.heap.size w w2 := Chg.below hb1 hb1.size hch1 (Nat.le_refl _)
  have hs2 : w.heap.size + 1 ≤ w2.heap.size := by have := hch1.size; omega
  have HHH := Lib.hid hh1; have HR1 := Lib.hid hr1; have HF1 := Lib.hid hf1; have HB2 := Lib.hid hb2; have HS2 := Lib.hid hs2
  have HG1 := Lib.hid (show w.heap.size + 1 ≤ g1 by omega)
  clear hw1 hb1 hs1 hq1 hh1 hr1 hf1 hch1 hb2 hs2 hg1
  go_wp2_with fail
  obtain ⟨w3, hw3⟩ : ∃ w3, w3 = w2.alloc (.cells #[.bool false, .slice none 0 0] 212) := ⟨_, rfl⟩
  rw [← hw3]
  have hb23 : Below w2.heap.size w2 w3 := by rw [hw3]; exact (Below.refl _ _).alloc (Nat.le_refl _) _
  have hb3 : Below w.heap.size w w3 := HB2.out.trans (hb23.mono HB2.out.size)
  have hs3 : w3.heap.size = w2.heap.size + 1 := by rw [hw3]; simp
  have hq3 : w3.heap[w2.heap.size]? = some (.cells #[.bool false, .slice none 0 0] 212 (0, 0)) := by rw [hw3]; exact heap_alloc_new _ _
  have hs2 := HS2.out
  have hy1 : (1 : Nat) < 2 ^ (64 * 1) := by decide
  refine (IntAbs_some w2.heap.size bb ob gy py cy 1 1 cb 212 Tb false bn w3 hy1 (by omega) (by omega) (by omega) hq3 ((hb3.block _ lb).trans HB.out) HB0.out HB1.out (by omega) (fun i hi => by
    obtain rfl : i = 0 := by omega
    exact (hb3.cell (p := ⟨gy, py + 0, none⟩) hgy).trans HCY.out)).mono ?_
  rintro e w4 ⟨rfl, g2, c2, f2, hh2, hg2, hn2, hr2, hf2, hch2⟩
  have hgm : GM w w4 w.heap.size w2.heap.size g1 g2 n V zb := by
    have hb4 : Below w.heap.size w w4 := Chg.below hb3 hb3.size hch2 (by omega)
    have h1l := HR1.out.lt
    have hg1 := HG1.out
    refine ⟨hb4, ⟨c1, f1, ?_, hn1, ?_, HF1.out⟩, ⟨c2, f2, hh2, hn2, hr2, ?_⟩, Nat.le_refl _, by omega, by omega, by omega, by omega, by omega, by omega, by omega, by omega, by omega⟩
    · rw [hch2.block _ (by omega) (by omega), hb23.block _ (by omega)]; exact HHH.out
    · exact (HR1.out.keep (hb23.block _ h1l)).keep (hch2.block _ (by omega) (by omega))
    · rw [hf2 0 (by omega)]; rfl
  have HGM := Lib.hid hgm
  have hl2 : w2.heap.size < w4.heap.size := (Array.getElem?_eq_some_iff.1 hh2).1
  have HL2 := Lib.hid hl2
  clear hw3 hb23 hb3 hs3 hq3 hy1 hh2 hr2 hf2 hch2 hgm hl2 hg2
  go_wp2_with fail
  obtain ⟨w5, hw5⟩ : ∃ w5, w5 = (w4.alloc (.cells #[.bool false, .slice none 0 0] 212)).alloc (.cells #[.bool false, .slice none 0 0] 212) := ⟨_, rfl⟩
  rw [← hw5]
  have hb45 : Below w4.heap.size w4 w5 := by rw [hw5]; exact ((Below.refl _ _).alloc (Nat.le_refl _) _).alloc (by simp) _
  have hs5 : w5.heap.size = w4.heap.size + 2 := by rw [hw5]; simp
  have hq5 : w5.heap[w4.heap.size]? = some (.cells #[.bool false, .slice none 0 0] 212 (0, 0)) := by rw [hw5]; exact heap2_0 _ _ _
  have hr5 : w5.heap[w4.heap.size + 1]? = some (.cells #[.bool false, .slice none 0 0] 212 (0, 0)) := by rw [hw5]; exact heap2_1 _ _ _
  obtain ⟨c1', f1', ha1, ha2, ha3, ha4⟩ := HGM.out.ha
  obtain ⟨c2', f2', hb1, hb2, hb3, hb4⟩ := HGM.out.hb
  have ha5 := (hb45.block _ (Array.getElem?_eq_some_iff.1 ha1).1).trans ha1
  have hb5 := (hb45.block _ (Array.getElem?_eq_some_iff.1 hb1).1).trans hb1
  have hg1l := ha3.lt
  have hg2l := hb3.lt
  have ha3' := ha3.below hb45 ha3.lt
  have hb3' := hb3.below hb45 hb3.lt
  have hcmp : ∃ cv : Int, 0 ≤ cv ∧ ∀ k, Calls Tryz.prog 179 #[.slice (some ⟨g1, 0, none⟩) n c1', .slice (some ⟨g2, 0, none⟩) 1 c2'] (w5.drewN k) fun e w' => e = .returned (.int .i64 cv) ∧ ∃ l, w' = (w5.drewN k).drewN l := by
    by_cases hn1 : n = 1
    · subst hn1
      refine ⟨sgn3 V 1, ?_, fun k => ?_⟩
      · unfold sgn3; rw [if_neg (by omega)]; split <;> omega
      · exact cmp_some g1 0 c1' g2 0 c2' 1 V 1 (w5.drewN k) (by omega) (by omega) hV (by decide) (fun i hi => by rw [Nat.zero_add]; show w5.cell? _ = _; rw [ha3'.cell (by omega), ha4 i hi]) (fun i hi => by
          obtain rfl : i = 0 := by omega
          show w5.cell? _ = _
          rw [Nat.zero_add, hb3'.cell (by omega), hb4]; rfl)
    · refine ⟨1, by omega, fun k => ?_⟩
      have := cmp_len (some ⟨g1, 0, none⟩) (some ⟨g2, 0, none⟩) n 1 c1' c2' (w5.drewN k) (by omega) (by omega) (by omega)
      rw [if_neg (by omega)] at this
      exact this
  obtain ⟨cv, hcv, hcm⟩ := hcmp
  have x1 : w5.cell? ⟨w.heap.size, 1, none⟩ = some (.slice (some ⟨g1, 0, none⟩) n c1') := (cell_of_row w5 _ 1 _ _ (0, 0) ha5).trans rfl
  have y1 : w5.cell? ⟨w2.heap.size, 1, none⟩ = some (.slice (some ⟨g2, 0, none⟩) 1 c2') := (cell_of_row w5 _ 1 _ _ (0, 0) hb5).trans rfl
  have hbb : Below w.heap.size w w5 := HGM.out.below.trans (hb45.mono HGM.out.below.size)
  have hao : w5.cell? ⟨ba, oa, none⟩ = some (.bool an) := (hbb.cell (p := ⟨ba, oa, none⟩) la).trans HAO
  have hcv' : ¬ (cv < 0) := by omega
  have HCM := Lib.hid hcm
  have HBB := Lib.hid hbb; have HA5 := Lib.hid ha5; have HB5 := Lib.hid hb5; have HQ5 := Lib.hid hq5; have HR5 := Lib.hid hr5
  have HR1' := Lib.hid ha3'; have HR2' := Lib.hid hb3'; have HF1' := Lib.hid ha4; have HF2' := Lib.hid hb4; have HN1 := Lib.hid ha2; have HN2 := Lib.hid hb2
  have HS5 := Lib.hid hs5
  clear hw5 hb45 hs5 hq5 hr5 ha1 ha2 ha3 ha4 hb1 hb2 hb3 hb4 ha5 hb5 ha3' hb3' hcm hbb hg1l hg2l
  go_quiet ((first | (go_at_call 179; with_reducible exact Calls.quiet_of (HCM.out _))))
  obtain ⟨w6, hw6⟩ : ∃ w6, w6 = w5.drewN nq := ⟨_, rfl⟩
  rw [← hw6]
  have x6 : w6.cell? ⟨w.heap.size, 1, none⟩ = some (.slice (some ⟨g1, 0, none⟩) n c1') := by rw [hw6]; exact x1
  have y6 : w6.cell? ⟨w2.heap.size, 1, none⟩ = some (.slice (some ⟨g2, 0, none⟩) 1 c2') := by rw [hw6]; exact y1
  have a6 : w6.cell? ⟨ba, oa, none⟩ = some (.bool an) := by rw [hw6]; exact hao
  have HW6 := Lib.hid hw6
  clear hw6 x1 y1 hao HCM
  go_wp2_with fail
  refine wp_loop_rounds 1 ?_
  rw [rounds_succ]
  by_cases hn1 : n = 1
  · subst hn1
    have hw0 : wd V 0 = V := by unfold wd; simp; omega
    have k1 : w6.cell? ⟨g1, 0, none⟩ = some (.int .u64 V) := by rw [HW6.out]; show w5.cell? _ = _; rw [HR1'.out.cell (by have := HN1.out; omega), HF1'.out 0 (by omega), hw0]
    have k2 : w6.cell? ⟨g2, 0, none⟩ = some (.int .u64 1) := by rw [HW6.out]; show w5.cell? _ = _; rw [HR2'.out.cell (by have := HN2.out; omega), HF2'.out]
    clear hw0
    go_wp2_with fail
    go_quiet (fail)
    obtain ⟨q1, hq1⟩ : ∃ q1, q1 = nq := ⟨_, rfl⟩
    rw [← hq1]
    clear hq1
    go_wp2_with fail
    refine wp_loop_rounds 2 ?_
    rw [rounds_succ]
    go_wp2_with fail
    go_quiet (fail)
    go_wp2_with fail
    rw [rounds_succ]
    obtain ⟨w9, hw9⟩ : ∃ w9, w9 = (w6.drewN q1).drewN nq := ⟨_, rfl⟩
    rw [← hw9]
    have hh9 : w9.heap = w5.heap := by rw [hw9, HW6.out]; rfl
    have hl2 := HL2.out
    have hs2 := HS2.out
    have hs5 := HS5.out
    have hb9 : Below w.heap.size w w9 := by rw [hw9, HW6.out]; exact below_drewN (below_drewN (below_drewN HBB.out))
    have hA9 : w9.heap[w.heap.size]? = some (.cells #[.bool false, .slice (some ⟨g1, 0, none⟩) 1 c1'] 212 (0, 0)) := by rw [hh9]; exact HA5.out
    have hr9 : Row w9 g1 246 c1' f1' := HR1'.out.keep (by rw [hh9])
    have x9 : w9.cell? ⟨w.heap.size, 1, none⟩ = some (.slice (some ⟨g1, 0, none⟩) 1 c1') := (cell_of_row w9 _ 1 _ _ (0, 0) hA9).trans rfl
    have k9 := hr9.cell (i := 0) (by have := HN1.out; omega)
    have f9 := hr9.frozen 0
    have a9 : w9.cell? ⟨ba, oa, none⟩ = some (.bool an) := (hb9.cell (p := ⟨ba, oa, none⟩) la).trans HAO
    have hg1 : w.heap.size ≤ g1 := HGM.out.l1
    have n1 : ba ≠ g1 := by omega
    have n2 : w.heap.size ≠ g1 := fun e => HGM.out.na1 e.symm
    have n3 : zb ≠ g1 := by omega
    have hb10 : Below w.heap.size w (w9.setCell ⟨g1, 0, none⟩ (.int .u64 1)) := hb9.setCell hg1 _
    have hA10 : (w9.setCell ⟨g1, 0, none⟩ (.int .u64 1)).heap[w.heap.size]? = some (.cells #[.bool false, .slice (some ⟨g1, 0, none⟩) 1 c1'] 212 (0, 0)) := (Below.heap_setCell w9 (⟨g1, 0, none⟩ : Addr) _ _ n2).trans hA9
    have SET := Lib.hid (Int_Set_some zb 0 w.heap.size 0 g1 0 c1' 1 1 #[.bool false, .slice none 0 0] #[.bool false, .slice (some ⟨g1, 0, none⟩) 1 c1'] 212 212 false false (w9.setCell ⟨g1, 0, none⟩ (.int .u64 1)) (by decide) (by omega) (by omega) (by have := hr9.lt; simpa [World.setCell] using this) ((hb10.block _ lz).trans HZ.out) hA10 rfl rfl rfl rfl (by omega) (fun i hi => by
      obtain rfl : i = 0 := by omega
      rw [Nat.add_zero, (hr9.set 0 (.int .u64 1)).cell (by have := HN1.out; omega)]; rfl))
    have HB10 := Lib.hid hb10
    clear hw9 hh9 hb9 hA9 hr9 hb10 hA10
    go_wp2_with fail
    refine SET.out.mono ?_
    rintro e w8 ⟨rfl, s8, hnew, hch, hh⟩
    rcases hnew with ⟨h, _⟩ | ⟨_, _, g8, c8, f8, rfl, hg8, hc8, hc8', hr8, hf8⟩
    · omega
    have HH := Lib.hid hh; have HCH := Lib.hid hch; have HR8 := Lib.hid hr8; have HF8 := Lib.hid hf8
    clear hh hch hr8 hf8
    go_wp2
    go_ret
    refine ⟨rfl, g8, c8, HH.out, ?_, (Chg.of_below (HB10.out)).trans HCH.out⟩
    rw [HR8.out.cell (by omega), HF8.out 0 (by omega)]; rfl
  · have hn2 : 1 < n := by omega
    have E := Lib.hid (euclid_one w.heap.size w2.heap.size w4.heap.size (w4.heap.size + 1) g1 g2 c1' c2' n V w6 h0 hn hV (by rw [HW6.out]; exact HR1'.out.lt) (by rw [HW6.out]; exact HR2'.out.lt) (by rw [HW6.out]; exact HA5.out) (by rw [HW6.out]; exact HB5.out) (by rw [HW6.out]; exact HQ5.out) (by rw [HW6.out]; exact HR5.out)
      (fun i hi => by rw [HW6.out]; show w5.cell? _ = _; rw [Nat.zero_add, HR1'.out.cell (by have := HN1.out; omega), HF1'.out i hi]) (by rw [HW6.out]; show w5.cell? _ = _; rw [HR2'.out.cell (by have := HN2.out; omega), HF2'.out]) (by omega) (by have := HGM.out.below.size; have := HL2.out; have := HS2.out; omega) (by have := HL2.out; omega) (by have := HL2.out; have := HS2.out; omega) (by have := HL2.out; omega))
    go_wp2_with fail
    refine E.out.mono ?_
    rintro e w7 ⟨rfl, hR7, hk7, hsz7, o1, o2, o3⟩
    have hl2 := HL2.out
    have hs2 := HS2.out
    have hs5 := HS5.out
    have hs6 : w6.heap.size = w5.heap.size := by rw [HW6.out]; rfl
    have hb67 : Below w4.heap.size w6 w7 := ⟨o1, o2, o3, hsz7, fun k hk => hk7 k (by omega) (by omega) (by omega)⟩
    have r7 : w7.cell? ⟨w4.heap.size + 1, 1, none⟩ = some (.slice none 0 0) := (cell_of_row w7 _ 1 _ _ (0, 0) hR7).trans rfl
    have a7 : w7.cell? ⟨ba, oa, none⟩ = some (.bool an) := (hb67.cell (p := ⟨ba, oa, none⟩) (by show ba < _; omega)).trans a6
    have hbw6 : Below w.heap.size w w6 := by rw [HW6.out]; exact below_drewN HBB.out
    have hbw7 : Below w.heap.size w w7 := hbw6.trans (hb67.mono (by omega))
    have hB7 : w7.heap[w2.heap.size]? = some (.cells #[.bool false, .slice (some ⟨g2, 0, none⟩) 1 c2'] 212 (0, 0)) := by
      rw [hb67.block _ hl2, HW6.out]; exact HB5.out
    have hg2l : g2 < w4.heap.size := by
      obtain ⟨_, _, _, _, h, _⟩ := HGM.out.hb
      exact h.lt
    have k2 : w7.cell? ⟨g2, 0 + 0, none⟩ = some (.int .u64 1) := by
      rw [hb67.cell (p := ⟨g2, 0 + 0, none⟩) hg2l, HW6.out]; show w5.cell? _ = _
      rw [HR2'.out.cell (by have := HN2.out; omega), HF2'.out]
    have SET := Lib.hid (Int_Set_some zb 0 w2.heap.size 0 g2 0 c2' 1 1 #[.bool false, .slice none 0 0] #[.bool false, .slice (some ⟨g2, 0, none⟩) 1 c2'] 212 212 false false w7 (by decide) (by omega) (by omega) (by have := hb67.size; omega) ((hbw7.block _ lz).trans HZ.out) hB7 rfl rfl rfl rfl (by omega) (fun i hi => by
      obtain rfl : i = 0 := by omega
      exact k2))
    have HBW7 := Lib.hid hbw7
    clear hR7 hk7 hsz7 o1 o2 o3 hb67 hbw6 hbw7 hB7 k2 hg2l
    go_wp2_with fail
    refine SET.out.mono ?_
    rintro e w8 ⟨rfl, s8, hnew, hch, hh⟩
    rcases hnew with ⟨h, _⟩ | ⟨_, _, g8, c8, f8, rfl, hg8, hc8, hc8', hr8, hf8⟩
    · omega
    have HH := Lib.hid hh; have HCH := Lib.hid hch; have HR8 := Lib.hid hr8; have HF8 := Lib.hid hf8
    clear hh hch hr8 hf8
    go_wp2
    go_ret
    refine ⟨rfl, g8, c8, HH.out, ?_, (Chg.of_below (HBW7.out)).trans HCH.out⟩
    rw [HR8.out.cell (by omega), HF8.out 0 (by omega)]; rfl

end Go.Proofs.YtpcleebnfgnhdaaGreatDoor

/- Walks: Rat.norm of a whole number. -/
set_option linter.unusedVariables false
set_option linter.unusedSimpArgs false
namespace Go.Proofs.YtpcleebnfgnhdaaGreatDoor
open Go.RowKit
open Num

set_option maxRecDepth 100000 in
set_option maxHeartbeats 400000 in
theorem norm_one (rb gx cx gy cy n V : Nat) (an bn : Bool) (w : World) (h0 : 0 < n) (hn : n ≤ 16777216) (hV : V < 2 ^ (64 * n)) (hV0 : 0 < V) (hgx : gx < w.heap.size) (hgy : gy < w.heap.size) (hxr : gx ≠ rb) (hyr : gy ≠ rb)
    (hz : w.heap[rb]? = some (.cells #[.bool an, .slice (some ⟨gx, 0, none⟩) n cx, .bool bn, .slice (some ⟨gy, 0, none⟩) 1 cy] 307 (0, 0)))
    (hc : ∀ i, i < n → w.cell? ⟨gx, 0 + i, none⟩ = some (.int .u64 (wd V i))) (hcy : w.cell? ⟨gy, 0, none⟩ = some (.int .u64 1)) :
    Calls Tryz.prog 183 #[.pointer (some ⟨rb, 0, none⟩)] w fun e w' => e = .returned (.pointer (some ⟨rb, 0, none⟩)) ∧ w'.heap[rb]? = some (.cells #[.bool an, .slice (some ⟨gx, 0, none⟩) n cx, .bool false, .slice (some ⟨gy, 0, none⟩) 1 cy] 307 (0, 0)) ∧ Chg rb w w' := by
  have lr := (Array.getElem?_eq_some_iff.1 hz).1
  have z0 := (cell_of_row w _ 0 _ _ (0, 0) hz).trans rfl
  have z1 := (cell_of_row w _ 1 _ _ (0, 0) hz).trans rfl
  have z2 := (cell_of_row w _ 2 _ _ (0, 0) hz).trans rfl
  have z3 := (cell_of_row w _ 3 _ _ (0, 0) hz).trans rfl
  have f0 : ∀ i, w.frozen? ⟨rb, i, none⟩ = false := fun i => by simp [World.frozen?, hz]
  have HZ := Lib.hid hz; have HC := Lib.hid hc; have HCY := Lib.hid hcy
  clear hz hc hcy
  go_enter_defers Tryz.func183, Tryz.ntmps183
  go_wp2_with fail
  refine (getStack_any _).mono ?_
  rintro e w1 ⟨rfl, rfl⟩
  obtain ⟨w1, hw1⟩ : ∃ w1, w1 = w.alloc (.cells #[.pointer none] 318) := ⟨_, rfl⟩
  rw [← hw1]
  have hb1 : Below w.heap.size w w1 := by rw [hw1]; exact (Below.refl _ _).alloc (Nat.le_refl _) _
  have hs1 : w1.heap.size = w.heap.size + 1 := by rw [hw1]; simp
  have hz1 := (hb1.block _ lr).trans HZ.out
  have hst1 : w1.heap[w.heap.size]? = some (.cells #[.pointer none] 318 (0, 0)) := by rw [hw1]; exact heap_alloc_new _ _
  have y0 := (cell_of_row w1 _ 0 _ _ (0, 0) hz1).trans rfl
  have y2 := (cell_of_row w1 _ 2 _ _ (0, 0) hz1).trans rfl
  have g1 : ∀ i, w1.frozen? ⟨rb, i, none⟩ = false := fun i => by simp [World.frozen?, hz1]
  have HB1 := Lib.hid hb1; have HS1 := Lib.hid hs1; have HZ1 := Lib.hid hz1; have HST1 := Lib.hid hst1
  clear hw1 hb1 hs1 hz1 hst1
  go_wp2_with fail
  obtain ⟨w2, hw2⟩ : ∃ w2, w2 = (w1.setCell ⟨rb, 0, none⟩ (.bool false)).setCell ⟨rb, 2, none⟩ (.bool false) := ⟨_, rfl⟩
  rw [← hw2]
  have hz2 : w2.heap[rb]? = some (.cells #[.bool false, .slice (some ⟨gx, 0, none⟩) n cx, .bool false, .slice (some ⟨gy, 0, none⟩) 1 cy] 307 (0, 0)) := by
    rw [hw2]; exact set1 (i := 2) (x := .bool false) (set1 (i := 0) (x := .bool false) HZ1.out)
  have hs2 : w2.heap.size = w.heap.size + 1 := by rw [hw2]; simpa [World.setCell] using HS1.out
  have hch2 : Chg rb w w2 := by rw [hw2]; exact ((Chg.of_below HB1.out).set _ _).set _ _
  have hst2 : w2.heap[w.heap.size]? = some (.cells #[.pointer none] 318 (0, 0)) := by
    rw [hw2, Below.heap_setCell _ _ _ _ (by show w.heap.size ≠ rb; omega), Below.heap_setCell _ _ _ _ (by show w.heap.size ≠ rb; omega)]; exact HST1.out
  have hz3 : (w2.drew.alloc (.cells #[.bool false, .slice none 0 0] 212)).heap[w2.heap.size]? = some (.cells #[.bool false, .slice none 0 0] 212 (0, 0)) := heap_alloc_new w2.drew _
  have hb3 : Below w2.heap.size w2 (w2.drew.alloc (.cells #[.bool false, .slice none 0 0] 212)) := (below_undrewN (n := 0) ((Below.refl _ _).drew)).alloc (Nat.le_refl _) _
  have hr3 := (hb3.block rb (by omega)).trans hz2
  have HL := Lib.hid (lehmer_one w2.heap.size rb 0 rb 2 gx 0 cx gy 0 cy n V 307 307 _ _ false false (w2.drew.alloc (.cells #[.bool false, .slice none 0 0] 212)) h0 hn hV hV0 (by have := hb3.size; omega) (by have := hb3.size; omega) hz3 hr3 rfl rfl hr3 rfl rfl
    (fun i hi => by rw [hb3.cell (p := ⟨gx, 0 + i, none⟩) (by show gx < _; omega), hch2.cell (p := ⟨gx, 0 + i, none⟩) hgx hxr]; exact HC.out i hi) (by rw [hb3.cell (p := ⟨gy, 0, none⟩) (by show gy < _; omega), hch2.cell (p := ⟨gy, 0, none⟩) hgy hyr]; exact HCY.out))
  have HN := Lib.hid (NewInt_zero w2.drew)
  have HS2 := Lib.hid hs2; have HCH2 := Lib.hid hch2; have HST2 := Lib.hid hst2; have HZ2 := Lib.hid hz2; have HB3 := Lib.hid hb3
  clear hw2 hz2 hs2 hch2 hst2 hz3 hb3 hr3 y0 y2 g1 z0 z1 z2 z3 f0
  refine wp_region_noPanic ?_
  go_region_law (first | (go_simp; go_at_call 92; refine HN.out.mono ?_; rintro e w3 ⟨rfl, rfl⟩) | (go_simp; go_at_call 195; refine HL.out.mono ?_; rintro e w4 ⟨rfl, g4, c4, h4, k4, ch4⟩; have H4 := Lib.hid h4; have K4 := Lib.hid k4; have CH4 := Lib.hid ch4; clear h4 k4 ch4))
  all_goals refine NoPanic.normal ?_
  all_goals go_wp2_with fail
  all_goals (
    refine (intOne_any _).mono ?_
    rintro e w5 ⟨rfl, hw5⟩
    have hs2 := HS2.out
    have hsz4 : w2.heap.size + 1 ≤ w4.heap.size := by have := CH4.out.size; simpa using this
    have hb45 : Below w4.heap.size w4 w5 := by rw [hw5]; exact ((Below.refl _ _).alloc (Nat.le_refl _) _).alloc (by simp) _
    have hI5 : w5.heap[w4.heap.size + 1]? = some (.cells #[.bool false, .slice (some ⟨w4.heap.size, 0, none⟩) 1 1] 212 (0, 0)) := by rw [hw5]; exact heap2_1 _ _ _
    have hk5 : w5.cell? ⟨w4.heap.size, 0, none⟩ = some (.int .u64 1) := by rw [hw5]; exact (cell_of_row _ _ 0 _ _ (0, 0) (heap2_0 _ _ _)).trans rfl
    have h45 := (hb45.block _ (Array.getElem?_eq_some_iff.1 H4.out).1).trans H4.out
    have hg4 : g4 < w4.heap.size := by
      have := K4.out
      rcases Nat.lt_or_ge g4 w4.heap.size with h | h
      · exact h
      · simp [World.cell?, Array.getElem?_eq_none h] at this
    have hk45 : w5.cell? ⟨g4, 0, none⟩ = some (.int .u64 1) := (hb45.cell (p := ⟨g4, 0, none⟩) hg4).trans K4.out
    have hr4 : w4.heap[rb]? = some (.cells #[.bool false, .slice (some ⟨gx, 0, none⟩) n cx, .bool false, .slice (some ⟨gy, 0, none⟩) 1 cy] 307 (0, 0)) := by
      rw [CH4.out.block rb (by have := HB3.out.size; omega) (by omega), HB3.out.block rb (by omega)]; exact HZ2.out
    have hr5 := (hb45.block rb (by omega)).trans hr4
    have hst5 : w5.heap[w.heap.size]? = some (.cells #[.pointer none] 318 (0, 0)) := by
      rw [hb45.block _ (by omega), CH4.out.block _ (by have := HB3.out.size; omega) (by omega), HB3.out.block _ (by omega)]; exact HST2.out
    have hch5 : Chg rb w w5 := by
      have c1 : Chg rb w (w2.drew.alloc (.cells #[.bool false, .slice none 0 0] 212)) := HCH2.out.drew.alloc _
      have c2 : Chg rb w w4 := ⟨CH4.out.os.trans c1.os, CH4.out.tape.trans c1.tape, CH4.out.output.trans c1.output, Nat.le_trans c1.size CH4.out.size, fun i hi hg => (CH4.out.block i (by have := c1.size; omega) (by omega)).trans (c1.block i hi hg)⟩
      exact ⟨hb45.os.trans c2.os, hb45.tape.trans c2.tape, hb45.output.trans c2.output, Nat.le_trans c2.size hb45.size, fun i hi hg => (hb45.block i (by have := c2.size; omega)).trans (c2.block i hi hg)⟩
    have HCM := Lib.hid (Cmp_same1 w2.heap.size (w4.heap.size + 1) g4 w4.heap.size c4 1 1 212 212 w5 (by decide) h45 hI5 (by omega) hk45 hk5)
    have HR5 := Lib.hid hr5; have HST5 := Lib.hid hst5; have HCH5 := Lib.hid hch5
    clear hw5 hb45 hI5 hk5 h45 hg4 hk45 hr4 hr5 hst5 hch5 hs2 hsz4
    go_wp2_with fail
    refine HCM.out.mono ?_
    rintro e w6 ⟨rfl, kk, hw6⟩
    have hr6 : w6.heap[rb]? = some (.cells #[.bool false, .slice (some ⟨gx, 0, none⟩) n cx, .bool false, .slice (some ⟨gy, 0, none⟩) 1 cy] 307 (0, 0)) := by rw [hw6]; exact HR5.out
    have hst6 : w6.heap[w.heap.size]? = some (.cells #[.pointer none] 318 (0, 0)) := by rw [hw6]; exact HST5.out
    have hch6 : Chg rb w w6 := by rw [hw6]; exact HCH5.out.drewN kk
    have y0 := (cell_of_row w6 _ 0 _ _ (0, 0) hr6).trans rfl
    have g1 : ∀ i, w6.frozen? ⟨rb, i, none⟩ = false := fun i => by simp [World.frozen?, hr6]
    have HR6 := Lib.hid hr6; have HST6 := Lib.hid hst6; have HCH6 := Lib.hid hch6
    clear hw6 hr6 hst6 hch6
    go_wp2
    refine leaves_cons (f := 171) (args := #[.pointer (some ⟨w.heap.size, 0, none⟩)]) (by simp) (by simp [go_sem]) ?_
    refine (free_deferred ⟨w.heap.size, 0, none⟩ .returning _ ?_).mono ?_
    · exact (cell_of_row _ _ 0 _ _ (0, 0) ((Below.heap_setCell w6 (⟨rb, 0, none⟩ : Addr) _ w.heap.size (by show w.heap.size ≠ rb; omega)).trans HST6.out)).trans rfl
    rintro e u' w'' ⟨rfl, rfl, rfl⟩
    exact ⟨_, results_tmp rfl _ _ _, rfl, set1 (i := 0) (x := .bool an) HR6.out, HCH6.out.set _ _⟩)

end Go.Proofs.YtpcleebnfgnhdaaGreatDoor

/- Walks: Rat.SetFloat64 of a float that is whole and at least 2^63. -/
set_option linter.unusedVariables false
set_option linter.unusedSimpArgs false
namespace Go.Proofs.YtpcleebnfgnhdaaGreatDoor
open Go.RowKit
open Num

set_option maxRecDepth 100000 in
set_option maxHeartbeats 400000 in
theorem SetFloat64_big (rb B k : Nat) (hB : B < 18446744073709551616) (hf : fexp B ≠ 2047) (hk : fplace B = (k : Int)) (hk11 : 11 ≤ k) (w : World)
    (hz : w.heap[rb]? = some (.cells #[.bool false, .slice none 0 0, .bool false, .slice none 0 0] 307 (0, 0))) :
    Calls Tryz.prog 174 #[.pointer (some ⟨rb, 0, none⟩), .float .f64 B] w fun e w' => e = .returned (.pointer (some ⟨rb, 0, none⟩)) ∧ ∃ gx cx gy cy n f f2, w'.heap[rb]? = some (.cells #[.bool (fneg B), .slice (some ⟨gx, 0, none⟩) n cx, .bool false, .slice (some ⟨gy, 0, none⟩) 1 cy] 307 (0, 0)) ∧
      Nw n (fman B * 2 ^ k) ∧ 0 < n ∧ n ≤ 1024 ∧ n ≤ cx ∧ 1 ≤ cy ∧ w.heap.size ≤ gx ∧ w.heap.size ≤ gy ∧ Row w' gx 246 cx f ∧ (∀ i, i < n → f i = .int .u64 (wd (fman B * 2 ^ k) i)) ∧ Row w' gy 246 cy f2 ∧ f2 0 = .int .u64 1 ∧ Chg rb w w' := by
  have hx := fexp_lt B
  have hM := fman_lt B
  have hMh := fplace_hi (B := B) (by omega)
  have hex : fexp B ≠ 0 := fun h => by unfold fplace at hk; rw [if_pos h] at hk; omega
  have hfm : fman B = ffrac B + 4503599627370496 := by unfold fman; rw [if_neg hex]
  have hfp : (fexp B : Int) = (k : Int) + 1075 := by unfold fplace at hk; rw [if_neg hex] at hk; omega
  have hk2 : k ≤ 971 := by omega
  have h1 : bits .and .u64 ((B : Int) / 4503599627370496) 2047 = (fexp B : Int) := by
    have := and_2047 (B / 4503599627370496) (by omega)
    rw [Int.natCast_ediv] at this
    exact this
  have h2 : bits .and .u64 (B : Int) 4503599627370495 = (ffrac B : Int) := and_frac B hB
  have h4 : bits .or .u64 (ffrac B : Int) 4503599627370496 = (fman B : Int) := by rw [hfm]; exact or_hidden _ (ffrac_lt B)
  have htb := run_tobits B
  obtain ⟨x, hxx⟩ : ∃ x, bits .and .u64 (fman B : Int) 1 = x := ⟨_, rfl⟩
  have hlt : (FloatKind.f64.format.order B 0 == some .lt) = fneg B := lt_zero B hB hf (by omega)
  have lr := (Array.getElem?_eq_some_iff.1 hz).1
  have HSU := Lib.hid (SetUint64_own rb 0 (fman B) _ 307 false w (by omega) (by omega) hz rfl rfl)
  have e1 : ((fexp B : Int) == 2047) = false := by rw [beq_eq_false_iff_ne]; omega
  have e2 : ((fexp B : Int) == 0) = false := by rw [beq_eq_false_iff_ne]; omega
  have e3 : (52 : Int) - ((fexp B : Int) - 1023) = -(k : Int) := by omega
  have hxb : (fexp B : Int) ≤ 2047 := by omega
  have HFM := Lib.hid hfm; have HMH := Lib.hid hMh; have HM := Lib.hid hM
  clear hex hfm hfp hk hMh hf hM hx
  rcases Bool.eq_false_or_eq_true (x == 0) with hx0 | hx0
  all_goals (
    go_enter Tryz.func174, Tryz.ntmps174
    go_wp2_with fail
    refine wp_loop_rounds 1 ?_
    rw [rounds_succ]
    go_wp2_with fail
    refine HSU.out.mono ?_
    rintro e w2 ⟨rfl, f2, hh2, hch2, hrow2, hf2⟩
    have hh2' : w2.heap[rb]? = some (.cells #[.bool false, .slice (some ⟨w.heap.size, 0, none⟩) 1 1, .bool false, .slice none 0 0] 307 (0, 0)) := hh2
    have y0 := (cell_of_row w2 _ 0 _ _ (0, 0) hh2').trans rfl
    have g2 : ∀ i, w2.frozen? ⟨rb, i, none⟩ = false := fun i => by simp [World.frozen?, hh2']
    have HH2 := Lib.hid hh2'; have HCH2 := Lib.hid hch2; have HROW2 := Lib.hid hrow2; have HF2 := Lib.hid hf2
    clear hh2 hh2' hch2 hrow2 hf2
    go_wp2_with fail
    obtain ⟨w3, hw3⟩ : ∃ w3, w3 = w2.setCell ⟨rb, 0, none⟩ (.bool (fneg B)) := ⟨_, rfl⟩
    rw [← hw3]
    have hh3 : w3.heap[rb]? = some (.cells #[.bool (fneg B), .slice (some ⟨w.heap.size, 0, none⟩) 1 1, .bool false, .slice none 0 0] 307 (0, 0)) := by rw [hw3]; exact set1 (i := 0) (x := .bool (fneg B)) HH2.out
    have hch3 : Chg rb w w3 := by rw [hw3]; exact HCH2.out.set _ _
    have hrow3 : Row w3 w.heap.size 246 1 f2 := by rw [hw3]; exact HROW2.out.far (by show w.heap.size ≠ rb; omega) _
    have hs3 : w.heap.size < w3.heap.size := hrow3.lt
    obtain ⟨O1, hO1⟩ : ∃ O1, O1 = Obj.cells #[.int .u64 1] 246 := ⟨_, rfl⟩
    obtain ⟨O2, hO2⟩ : ∃ O2, O2 = Obj.cells #[.bool false, .slice (some ⟨w3.heap.size, 0, none⟩) 1 1] 212 := ⟨_, rfl⟩
    have hI := intOne_any w3.drew
    rw [show w3.drew.heap.size = w3.heap.size from rfl, ← hO1, ← hO2] at hI
    obtain ⟨w4, hw4⟩ : ∃ w4, w4 = (w3.drew.alloc O1).alloc O2 := ⟨_, rfl⟩
    rw [← hw4] at hI
    have hb34 : Below w3.heap.size w3 w4 := by rw [hw4]; exact below_undrew ((((Below.refl w3.drew.heap.size w3.drew).alloc (Nat.le_refl _) _).alloc (by simp) _))
    have hI4 : w4.heap[w3.heap.size + 1]? = some (.cells #[.bool false, .slice (some ⟨w3.heap.size, 0, none⟩) 1 1] 212 (0, 0)) := by rw [hw4, hO2]; exact heap2_1 w3.drew _ _
    have hk4 : w4.cell? ⟨w3.heap.size, 0 + 0, none⟩ = some (.int .u64 1) := by rw [hw4, hO1]; exact (cell_of_row _ _ 0 _ _ (0, 0) (heap2_0 w3.drew _ _)).trans rfl
    have hs4 : w4.heap.size = w3.heap.size + 2 := by rw [hw4]; simp
    have hh4 := (hb34.block rb (by have := hch3.size; omega)).trans hh3
    have HSET := Lib.hid (Int_Set_some rb 2 (w3.heap.size + 1) 0 w3.heap.size 0 1 1 1 _ _ _ _ false false w4 (by decide) (by omega) (by omega) (by omega) hh4 hI4 rfl rfl rfl rfl (by have := hch3.size; omega) (fun i hi => by
      obtain rfl : i = 0 := by omega
      exact hk4))
    have HI := Lib.hid hI
    have HB34 := Lib.hid hb34; have HS4 := Lib.hid hs4; have HCH3 := Lib.hid hch3; have HROW3 := Lib.hid hrow3; have HH4 := Lib.hid hh4; have HS3 := Lib.hid hs3
    clear hw3 hh3 hch3 hrow3 hO1 hO2 hI hw4 hb34 hI4 hk4 hs4 hh4 y0 g2 hs3
    go_region_law (first | (go_simp; go_at_call 181; refine HI.out.mono ?_; rintro e w4' ⟨rfl, hww⟩; subst hww) | (go_simp; go_at_call 91; refine HSET.out.mono ?_; rintro e w5 ⟨rfl, s5, hnew, hch5, hh5⟩; have HNEW := Lib.hid hnew; have HCH5 := Lib.hid hch5; have HH5 := Lib.hid hh5; clear hnew hch5 hh5))
    all_goals go_wp2_with fail
    all_goals (
      rcases HNEW.out with ⟨h, _⟩ | ⟨_, _, g5, c5, f5, rfl, hg5, hc5, hc5', hr5, hf5⟩
      · omega
      have hh5 : w5.heap[rb]? = some (.cells #[.bool (fneg B), .slice (some ⟨w.heap.size, 0, none⟩) 1 1, .bool false, .slice (some ⟨g5, 0, none⟩) 1 c5] 307 (0, 0)) := HH5.out
      have hs3 := HS3.out
      have hs4 := HS4.out
      have hrow5 : Row w5 w.heap.size 246 1 f2 := (HROW3.out.below HB34.out hs3).chg HCH5.out (by omega)
      have hch35 : Chg rb w w5 := by
        have c3 := HCH3.out
        have b := HB34.out
        have c5 := HCH5.out
        exact ⟨c5.os.trans (b.os.trans c3.os), c5.tape.trans (b.tape.trans c3.tape), c5.output.trans (b.output.trans c3.output), Nat.le_trans c3.size (Nat.le_trans b.size c5.size), fun i hi hg => (c5.block i (by have := c3.size; omega) hg).trans ((b.block i (by have := c3.size; omega)).trans (c3.block i hi hg))⟩
      have hwd : wd (fman B) 0 = fman B := by have := HM.out; unfold wd; simp; omega
      have hL := IntLsh_own rb 0 w.heap.size 1 1 (fman B) k _ _ (fneg B) w5.drew (by have := HMH.out; omega) (by omega) (by omega) (by omega) (by omega) (by omega) (by have := HM.out; omega) hrow5.lt (fun i hi => by
        obtain rfl : i = 0 := by omega
        rw [hwd]
        show w5.cell? _ = _
        rw [Nat.add_zero, hrow5.cell (by omega), HF2.out]) hh5 rfl rfl
      have HL := Lib.hid hL
      have hwk1 : IntKind.i64.wrap (k : Int) = (k : Int) := by simp only [IntKind.wrap_i64]; omega
      have hwk2 : IntKind.u64.wrap (k : Int) = (k : Int) := by simp only [IntKind.wrap_u64]; omega
      have HC35 := Lib.hid hch35; have HR5 := Lib.hid hr5; have HF5 := Lib.hid hf5; have HC5 := Lib.hid hc5
      have HG5 := Lib.hid (show w.heap.size ≤ g5 ∧ g5 ≠ rb ∧ g5 < w5.heap.size by refine ⟨by omega, by have := HCH3.out.size; omega, hr5.lt⟩)
      clear hh5 hrow5 hch35 hwd hL hr5 hf5 hs3 hs4
      go_region_law (first | (go_simp; go_at_call 182; refine HL.out.mono ?_; rintro e w6 ⟨rfl, m, hN, hm, s6, hnew6, hch6, hh6⟩; have HN := Lib.hid hN; have HNEW6 := Lib.hid hnew6; have HCH6 := Lib.hid hch6; have HH6 := Lib.hid hh6; clear hN hnew6 hch6 hh6))
      all_goals go_wp2_with fail
      all_goals (
        have hVp : 0 < fman B * 2 ^ k := Nat.mul_pos (by have := HMH.out; omega) (Nat.two_pow_pos k)
        rcases HNEW6.out with ⟨h, h', _⟩ | ⟨hm0, hVm, g6, c6, f6, rfl, hg6, hc6, hc6', hr6, hf6⟩
        · omega
        have hm16 : m ≤ 1024 := by
          have h1 := HN.out.2 hm0
          obtain ⟨E, hE⟩ : ∃ E, E = 971 := ⟨_, rfl⟩
          have hM53 : fman B < 2 ^ 53 := by have := HM.out; simpa using this
          have h2 : fman B * 2 ^ k < 2 ^ 53 * 2 ^ E := Nat.mul_lt_mul_of_lt_of_le hM53 (Nat.pow_le_pow_right (by omega) (by omega)) (Nat.two_pow_pos _)
          rw [← Nat.pow_add] at h2
          have h3 := (Nat.pow_lt_pow_iff_right (by omega : 1 < 2)).1 (Nat.lt_of_le_of_lt h1 h2)
          omega
        have hh6 : w6.heap[rb]? = some (.cells #[.bool (fneg B), .slice (some ⟨g6, 0, none⟩) m c6, .bool false, .slice (some ⟨g5, 0, none⟩) 1 c5] 307 (0, 0)) := HH6.out
        have hw56 : w5.heap.size ≤ w6.heap.size := HCH6.out.size
        have hg6' : w5.heap.size ≤ g6 := hg6
        have hwr : rb < w5.heap.size := Nat.lt_of_lt_of_le lr HC35.out.size
        have hr56 : Row w6 g5 246 c5 f5 := HR5.out.keep (HCH6.out.block g5 HG5.out.2.2 HG5.out.2.1)
        have hf50 : f5 0 = .int .u64 1 := by rw [HF5.out 0 (by omega)]; rfl
        have hch6 : Chg rb w w6 := ⟨HCH6.out.os.trans HC35.out.os, HCH6.out.tape.trans HC35.out.tape, HCH6.out.output.trans HC35.out.output, Nat.le_trans HC35.out.size hw56, fun i hi hg => (HCH6.out.block i (Nat.lt_of_lt_of_le hi HC35.out.size) hg).trans (HC35.out.block i hi hg)⟩
        have hNO := norm_one rb g6 c6 g5 c5 m (fman B * 2 ^ k) (fneg B) false w6 hm0 (by omega) hVm hVp hr6.lt hr56.lt (by omega) HG5.out.2.1 hh6 (fun i hi => by rw [Nat.zero_add, hr6.cell (by omega), hf6 i hi]) (by rw [hr56.cell (by have := HC5.out; omega), hf50])
        have HNO := Lib.hid hNO
        have HH := Lib.hid hr6; have HF6 := Lib.hid hf6; have HR56 := Lib.hid hr56; have HF50 := Lib.hid hf50; have HCC := Lib.hid hch6
        have HX := Lib.hid (show g6 ≠ rb ∧ w.heap.size ≤ g6 by refine ⟨by omega, ?_⟩; have := HC35.out.size; omega)
        have HY := Lib.hid (And.intro hm0 (And.intro hm16 hc6))
        clear hVp hVm hg6 hc6 hc6' hr6 hf6 hm16 hh6 hw56 hg6' hwr hr56 hf50 hch6 hNO hm0
        go_wp2_with fail
        refine HNO.out.mono ?_
        rintro e w7 ⟨rfl, hh7, hch7⟩
        have HH7 := Lib.hid hh7; have HCH7 := Lib.hid hch7
        clear hh7 hch7
        go_wp2
        go_ret
        exact ⟨rfl, g6, c6, g5, c5, m, f6, f5, HH7.out, HN.out, HY.out.1, HY.out.2.1, HY.out.2.2, HC5.out, HX.out.2, HG5.out.1, HH.out.chg HCH7.out HX.out.1, HF6.out, HR56.out.chg HCH7.out HG5.out.2.1, HF50.out, HCC.out.trans HCH7.out⟩)))

end Go.Proofs.YtpcleebnfgnhdaaGreatDoor

/- Walks: Float.rational, Num, Denom, Int.Div by 1; finiteFloatToInt of big floats. -/
set_option linter.unusedVariables false
set_option linter.unusedSimpArgs false
namespace Go.Proofs.YtpcleebnfgnhdaaGreatDoor
open Go.RowKit
open Num

/-- a Rat that is a whole number -/
structure RatIs (w : World) (rb : Nat) (neg : Bool) (V : Nat) (gx cx gy cy n : Nat) : Prop where
  heap : w.heap[rb]? = some (.cells #[.bool neg, .slice (some ⟨gx, 0, none⟩) n cx, .bool false, .slice (some ⟨gy, 0, none⟩) 1 cy] 307 (0, 0))
  nw : Nw n V
  pos : 0 < n
  le : n ≤ 1024
  rowx : ∃ f, n ≤ cx ∧ Row w gx 246 cx f ∧ ∀ i, i < n → f i = .int .u64 (wd V i)
  rowy : ∃ f, 1 ≤ cy ∧ Row w gy 246 cy f ∧ f 0 = .int .u64 1

theorem RatIs.below {w w' : World} {rb : Nat} {neg : Bool} {V gx cx gy cy n : Nat} (h : RatIs w rb neg V gx cx gy cy n) (hb : Below w.heap.size w w') : RatIs w' rb neg V gx cx gy cy n := by
  obtain ⟨f, h1, h2, h3⟩ := h.rowx
  obtain ⟨f2, k1, k2, k3⟩ := h.rowy
  exact ⟨(hb.block _ (Array.getElem?_eq_some_iff.1 h.heap).1).trans h.heap, h.nw, h.pos, h.le, ⟨f, h1, h2.below hb h2.lt, h3⟩, ⟨f2, k1, k2.below hb k2.lt, k3⟩⟩

set_option maxRecDepth 100000 in
theorem rational_big (B k : Nat) (hB : B < 18446744073709551616) (hf : fexp B ≠ 2047) (hk : fplace B = (k : Int)) (hk11 : 11 ≤ k) (w : World) :
    Calls Tryz.prog 166 #[.float .f64 B] w fun e w' => e = .returned (.pointer (some ⟨w.heap.size, 0, none⟩)) ∧ (∃ gx cx gy cy n, RatIs w' w.heap.size (fneg B) (fman B * 2 ^ k) gx cx gy cy n) ∧ Below w.heap.size w w' := by
  have hz : (w.alloc (.cells #[.bool false, .slice none 0 0, .bool false, .slice none 0 0] 307)).heap[w.heap.size]? = some (.cells #[.bool false, .slice none 0 0, .bool false, .slice none 0 0] 307 (0, 0)) := heap_alloc_new _ _
  have HS := Lib.hid (SetFloat64_big w.heap.size B k hB hf hk hk11 _ hz)
  have hb0 : Below w.heap.size w (w.alloc (.cells #[.bool false, .slice none 0 0, .bool false, .slice none 0 0] 307)) := (Below.refl _ _).alloc (Nat.le_refl _) _
  have HB0 := Lib.hid hb0
  clear hz hk hf hb0
  go_enter Tryz.func166, Tryz.ntmps166
  go_wp2_with fail
  refine HS.out.mono ?_
  rintro e w2 ⟨rfl, gx, cx, gy, cy, n, f, f2, h1, h2, h3, h4, h5, h6, h7, h8, h9, h10, h11, h12, h13⟩
  have H := Lib.hid (show RatIs w2 w.heap.size (fneg B) (fman B * 2 ^ k) gx cx gy cy n from ⟨h1, h2, h3, h4, ⟨f, h5, h9, h10⟩, ⟨f2, h6, h11, h12⟩⟩)
  have HC := Lib.hid h13
  clear h1 h2 h3 h4 h5 h6 h7 h8 h9 h10 h11 h12 h13
  go_wp2
  go_ret
  exact ⟨rfl, ⟨gx, cx, gy, cy, n, H.out⟩, Chg.below HB0.out HB0.out.size HC.out (Nat.le_refl _)⟩

theorem Num_any (rb : Nat) (w : World) :
    Calls Tryz.prog 332 #[.pointer (some ⟨rb, 0, none⟩)] w fun e w' => e = .returned (.pointer (some ⟨rb, 0, none⟩)) ∧ w' = w := by
  go_enter Tryz.func332, Tryz.ntmps332
  go_wp2
  go_ret
  exact ⟨rfl, rfl⟩
theorem Denom_any (rb : Nat) (a : Option Addr) (c : Nat) (w : World) (h : w.cell? ⟨rb, 3, none⟩ = some (.slice a 1 c)) :
    Calls Tryz.prog 333 #[.pointer (some ⟨rb, 0, none⟩)] w fun e w' => e = .returned (.pointer (some ⟨rb, 2, none⟩)) ∧ w' = w := by
  go_enter Tryz.func333, Tryz.ntmps333
  go_wp2
  go_ret
  exact ⟨rfl, rfl⟩

theorem Div_one (zb rb : Nat) (neg : Bool) (V gx cx gy cy n : Nat) (w : World) (h : RatIs w rb neg V gx cx gy cy n) (hz : w.heap[zb]? = some (.cells #[.bool false, .slice none 0 0] 212 (0, 0))) (hne : zb ≠ rb) :
    Calls Tryz.prog 216 #[.pointer (some ⟨zb, 0, none⟩), .pointer (some ⟨rb, 0, none⟩), .pointer (some ⟨rb, 2, none⟩)] w fun e w' => e = .returned (.pointer (some ⟨zb, 0, none⟩)) ∧ IntObj w' zb 0 neg n V ∧ Chg zb w w' := by
  have lz := (Array.getElem?_eq_some_iff.1 hz).1
  have lr := (Array.getElem?_eq_some_iff.1 h.heap).1
  obtain ⟨w1, hw1⟩ : ∃ w1, w1 = w.alloc (.cells #[.bool false, .slice none 0 0] 212) := ⟨_, rfl⟩
  have hb1 : Below w.heap.size w w1 := by rw [hw1]; exact (Below.refl _ _).alloc (Nat.le_refl _) _
  have hs1 : w1.heap.size = w.heap.size + 1 := by rw [hw1]; simp
  have hq1 : w1.heap[w.heap.size]? = some (.cells #[.bool false, .slice none 0 0] 212 (0, 0)) := by rw [hw1]; exact heap_alloc_new _ _
  have h1 := h.below hb1
  obtain ⟨f, x1, x2, x3⟩ := h1.rowx
  obtain ⟨f2, y1, y2, y3⟩ := h1.rowy
  have z2 : w.cell? ⟨rb, 2, none⟩ = some (.bool false) := (cell_of_row w _ 2 _ _ (0, 0) h.heap).trans rfl
  have HQ := Lib.hid (QuoRem_one zb w.heap.size rb 0 rb 2 gx 0 cx gy 0 cy n V false false neg false _ _ _ _ _ _ w1 h1.pos (by have := h1.le; omega) h1.nw.1 x2.lt y2.lt ((hb1.block _ lz).trans hz) hq1 h1.heap rfl rfl h1.heap rfl rfl (fun i hi => by rw [Nat.zero_add, x2.cell (by omega), x3 i hi]) (by rw [y2.cell (by omega), y3]) (by omega) hne hne (by omega) (by omega))
  have HW := Lib.hid hw1; have HB1 := Lib.hid hb1; have HS1 := Lib.hid hs1; have HH := Lib.hid h
  clear hw1 hb1 hs1 hq1 h1 x1 x2 x3 y1 y2 y3 hz h
  go_enter Tryz.func216, Tryz.ntmps216
  go_wp2_with fail
  rw [← HW.out]
  refine HQ.out.mono ?_
  rintro e w2 ⟨rfl, c, f', q1, q2, q3, q4, q5, q6, q7, q8, q9, q10, q11⟩
  have r0 : w2.cell? ⟨w.heap.size, 0, none⟩ = some (.bool false) := (cell_of_row w2 _ 0 _ _ (0, 0) q2).trans rfl
  have hs := HS1.out
  have hI : IntObj w2 zb 0 neg n V := by
    refine ⟨_, _, _, q1, ?_, rfl, HH.out.nw, by have := HH.out.le; omega, .inr ⟨HH.out.pos, w1.heap.size, 0, c, rfl, q5.lt, fun i hi => ?_⟩⟩
    · cases neg <;> rfl
    · rw [Nat.zero_add, q5.cell (by omega), q6 i hi]
  have hC : Chg zb w w2 := ⟨q9.trans HB1.out.os, q10.trans HB1.out.tape, q11.trans HB1.out.output, by omega, fun k hk hg => (q7 k (by omega) hg (by omega)).trans (HB1.out.block k hk)⟩
  have HI := Lib.hid hI; have HC := Lib.hid hC
  clear q1 q2 q3 q4 q5 q6 q7 q8 q9 q10 q11 hI hC hs
  go_wp2
  go_ret
  exact ⟨rfl, HI.out, HC.out⟩

end Go.Proofs.YtpcleebnfgnhdaaGreatDoor
