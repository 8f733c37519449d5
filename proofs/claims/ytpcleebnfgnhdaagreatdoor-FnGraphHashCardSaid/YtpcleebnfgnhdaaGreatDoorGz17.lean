import Derived.Test.YtpcleebnfgnhdaaGreatDoorGz9
import Derived.Test.YtpcleebnfgnhdaaGreatDoorGz16
import Derived.Defers
import Derived.Test.YtpcleebnfgnhdaaGreatDoorGz15
/- Walks: lehmerGCD of two numbers without a common divisor, one of them a word. -/
set_option linter.unusedVariables false
set_option linter.unusedSimpArgs false
namespace Go.Proofs.YtpcleebnfgnhdaaGreatDoor
open Go.RowKit
open Num

theorem euclid_word (A Bk Q R g1 g2 c1 c2 n X y : Nat) (w : World) (hn2 : 2 ≤ n) (hn : n ≤ 1048576) (hNX : Nw n X) (hXy : y ≤ X) (hy : 0 < y) (hy2 : y < 18446744073709551616) (hg1 : g1 < w.heap.size)
    (hA : w.heap[A]? = some (.cells #[.bool false, .slice (some ⟨g1, 0, none⟩) n c1] 212 (0, 0))) (hB : w.heap[Bk]? = some (.cells #[.bool false, .slice (some ⟨g2, 0, none⟩) 1 c2] 212 (0, 0)))
    (hQ : w.heap[Q]? = some (.cells #[.bool false, .slice none 0 0] 212 (0, 0))) (hR : w.heap[R]? = some (.cells #[.bool false, .slice none 0 0] 212 (0, 0)))
    (hc : ∀ i, i < n → w.cell? ⟨g1, 0 + i, none⟩ = some (.int .u64 (wd X i))) (hcy : w.cell? ⟨g2, 0, none⟩ = some (.int .u64 y))
    (n1 : Q ≠ R) (n2 : Q ≠ A) (n3 : Q ≠ Bk) (n4 : R ≠ A) (n5 : R ≠ Bk) :
    Calls Tryz.prog 213 #[.pointer (some ⟨A, 0, none⟩), .pointer (some ⟨Bk, 0, none⟩), .pointer none, .pointer none, .pointer (some ⟨Q, 0, none⟩), .pointer (some ⟨R, 0, none⟩), .bool false] w fun e w' =>
      e = .returned (.tuple #[.pointer (some ⟨Bk, 0, none⟩), .pointer (some ⟨R, 0, none⟩), .pointer (some ⟨A, 0, none⟩), .pointer none, .pointer none]) ∧ QW w w' Q R (X / y) (X % y) false false 212 212 := by
  have HQR := Lib.hid (QuoRem_word Q R A 0 Bk 0 g1 0 c1 g2 0 c2 n X y false false _ _ _ _ _ _ w hn2 hn hNX hXy hy hy2 hg1 hQ hR hA rfl rfl hB rfl rfl hc hcy n1 n2 n3 n4 n5)
  clear hA hB hQ hR hc hcy hNX
  go_enter Tryz.func213, Tryz.ntmps213
  go_wp2_with fail
  refine HQR.out.mono ?_
  rintro e w2 ⟨rfl, h⟩
  have H := Lib.hid h
  clear h
  go_wp2
  exact bodyPost_ret (v := .tuple #[.pointer (some ⟨Bk, 0, none⟩), .pointer (some ⟨R, 0, none⟩), .pointer (some ⟨A, 0, none⟩), .pointer none, .pointer none]) (by simp [results, Tryz.results213, go_sem]) rfl ⟨rfl, H.out⟩

/-- an Int of its own at block p: n words V, its row in block g -/
def OwnI (B : Nat) (w : World) (p n V : Nat) : Prop :=
  ∃ g c f, w.heap[p]? = some (.cells #[.bool false, .slice (some ⟨g, 0, none⟩) n c] 212 (0, 0)) ∧ n ≤ c ∧ Row w g 246 c f ∧ (∀ i, i < n → f i = .int .u64 (wd V i)) ∧ B ≤ g ∧ g ≠ p ∧ B ≤ p
theorem OwnI.keep {B : Nat} {w w' : World} {p n V : Nat} (h : OwnI B w p n V) (hb : ∀ k, k < w.heap.size → w'.heap[k]? = w.heap[k]?) : OwnI B w' p n V := by
  obtain ⟨g, c, f, h1, h2, h3, h4, h5, h6, h7⟩ := h
  exact ⟨g, c, f, (hb p (Array.getElem?_eq_some_iff.1 h1).1).trans h1, h2, h3.keep (hb g h3.lt), h4, h5, h6, h7⟩
/-- a temporary Int that holds nothing -/
def NilI (w : World) (p : Nat) : Prop := w.heap[p]? = some (.cells #[.bool false, .slice none 0 0] 212 (0, 0))

/-- ahead of the loops: A and B, A not less than B, B a word -/
def GT (w wx : World) (x11 x12 x13 x14 : Value) (pq pr V U : Nat) : Prop :=
  ∃ pa pb na, x11 = .pointer (some ⟨pa, 0, none⟩) ∧ x12 = .pointer (some ⟨pb, 0, none⟩) ∧ x13 = .pointer none ∧ x14 = .pointer none ∧ 0 < na ∧ Nw na V ∧ OwnI w.heap.size wx pa na V ∧ OwnI w.heap.size wx pb 1 U ∧ Below w.heap.size w wx ∧ NilI wx pq ∧ NilI wx pr ∧ pq ≠ pr ∧ pq ≠ pa ∧ pq ≠ pb ∧ pr ≠ pa ∧ pr ≠ pb ∧ w.heap.size ≤ pq ∧ w.heap.size ≤ pr
/-- behind the one step of Euclid: A a word, B a word or 0 -/
def GU (w wx : World) (x11 x12 : Value) : Prop :=
  ∃ pa pb k a b s, x11 = .pointer (some ⟨pa, 0, none⟩) ∧ x12 = .pointer (some ⟨pb, 0, none⟩) ∧ a < 18446744073709551616 ∧ Nat.gcd a b = 1 ∧ OwnI w.heap.size wx pa 1 a ∧ Below w.heap.size w wx ∧ wx.heap[pb]? = some (.cells #[.bool false, s] 212 (0, 0)) ∧
    ((k = 0 ∧ b = 0 ∧ ∃ q c, s = .slice q 0 c) ∨ (k = 1 ∧ 0 < b ∧ b < 18446744073709551616 ∧ ∃ g c, s = .slice (some ⟨g, 0, none⟩) 1 c ∧ wx.cell? ⟨g, 0, none⟩ = some (.int .u64 b)))
/-- behind the words' loop: A is 1 -/
def GV (w wx : World) (x11 : Value) : Prop := ∃ pa, x11 = .pointer (some ⟨pa, 0, none⟩) ∧ OwnI w.heap.size wx pa 1 1 ∧ Below w.heap.size w wx

theorem cmp_words {w : World} {s t : Value} {n m V U : Nat} (hs : Words w s n V) (ht : Words w t m U) : Calls Tryz.prog 179 #[s, t] w fun e w' => e = .returned (.int .i64 (sgn3 V U)) ∧ ∃ k, w' = w.drewN k := by
  obtain ⟨sa, sc, rfl⟩ := hs.shape
  obtain ⟨ta, tc, rfl⟩ := ht.shape
  have hn := hs.2.1
  have hm := ht.2.1
  by_cases hnm : n = m
  · subst hnm
    by_cases h0 : n = 0
    · subst h0
      obtain rfl := hs.1.zero_iff.1 rfl
      obtain rfl := ht.1.zero_iff.1 rfl
      exact cmp_nil sa ta sc tc w
    · rcases hs.2.2 with ⟨h, _⟩ | ⟨_, g, p, c, e, hg, hc⟩
      · omega
      rcases ht.2.2 with ⟨h, _⟩ | ⟨_, g2, p2, c2, e2, hg2, hc2⟩
      · omega
      rw [e, e2]
      exact cmp_some g p c g2 p2 c2 n V U w (by omega) (by omega) hs.1.1 ht.1.1 hc hc2
  · have h := cmp_len sa ta n m sc tc w (by omega) (by omega) (by omega)
    have hsg : sgn3 V U = if n < m then -1 else 1 := by
      unfold sgn3
      by_cases hl : n < m
      · have h1 := ht.1.2 (by omega)
        have h2 := hs.1.1
        have h3 := Nat.pow_le_pow_right (n := 2) (by omega) (show 64 * n ≤ 64 * (m - 1) by omega)
        rw [if_pos hl, if_pos (by omega)]
      · have h1 := hs.1.2 (by omega)
        have h2 := ht.1.1
        have h3 := Nat.pow_le_pow_right (n := 2) (by omega) (show 64 * m ≤ 64 * (n - 1) by omega)
        rw [if_neg hl, if_neg (by omega), if_pos (by omega)]
    rw [hsg]
    exact h

theorem OwnI.words {B : Nat} {w : World} {p n V : Nat} (h : OwnI B w p n V) (hN : Nw n V) (h0 : 0 < n) (hn : n ≤ 16777216) : ∃ s, w.cell? ⟨p, 0, none⟩ = some (.bool false) ∧ w.cell? ⟨p, 1, none⟩ = some s ∧ Words w s n V := by
  obtain ⟨g, c, f, h1, h2, h3, h4, h5, h6, h7⟩ := h
  exact ⟨_, (cell_of_row w _ 0 _ _ (0, 0) h1).trans rfl, (cell_of_row w _ 1 _ _ (0, 0) h1).trans rfl, hN, hn, .inr ⟨h0, g, 0, c, rfl, h3.lt, fun i hi => by rw [Nat.zero_add, h3.cell (by omega), h4 i hi]⟩⟩

set_option maxRecDepth 100000 in
set_option maxHeartbeats 1000000 in
theorem lehmer_word (zb ba oa bb ob gx px cx gy py cy n m V U Ta Tb : Nat) (ca cb : Array Value) (an bn : Bool) (w : World) (h0 : 0 < n) (hm0 : 0 < m) (hn : n ≤ 1048576) (hm : m ≤ 1048576) (hone : n = 1 ∨ m = 1) (hNV : Nw n V) (hNU : Nw m U) (hgcd : Nat.gcd V U = 1)
    (hgx : gx < w.heap.size) (hgy : gy < w.heap.size)
    (hz : w.heap[zb]? = some (.cells #[.bool false, .slice none 0 0] 212 (0, 0)))
    (ha : w.heap[ba]? = some (.cells ca Ta (0, 0))) (a0 : ca[oa]? = some (.bool an)) (a1 : ca[oa + 1]? = some (.slice (some ⟨gx, px, none⟩) n cx))
    (hb : w.heap[bb]? = some (.cells cb Tb (0, 0))) (b0 : cb[ob]? = some (.bool bn)) (b1 : cb[ob + 1]? = some (.slice (some ⟨gy, py, none⟩) m cy))
    (hc : ∀ i, i < n → w.cell? ⟨gx, px + i, none⟩ = some (.int .u64 (wd V i))) (hcy : ∀ i, i < m → w.cell? ⟨gy, py + i, none⟩ = some (.int .u64 (wd U i))) :
    Calls Tryz.prog 195 #[.pointer (some ⟨zb, 0, none⟩), .pointer none, .pointer none, .pointer (some ⟨ba, oa, none⟩), .pointer (some ⟨bb, ob, none⟩)] w fun e w' =>
      e = .returned (.pointer (some ⟨zb, 0, none⟩)) ∧ ∃ g c, w'.heap[zb]? = some (.cells #[.bool false, .slice (some ⟨g, 0, none⟩) 1 c] 212 (0, 0)) ∧ w'.cell? ⟨g, 0, none⟩ = some (.int .u64 1) ∧ Chg zb w w' := by
  have lz := (Array.getElem?_eq_some_iff.1 hz).1
  have la := (Array.getElem?_eq_some_iff.1 ha).1
  have lb := (Array.getElem?_eq_some_iff.1 hb).1
  have HZ := Lib.hid hz; have HA := Lib.hid ha; have HB := Lib.hid hb
  have HC := Lib.hid hc; have HCY := Lib.hid hcy
  have HA0 := Lib.hid a0; have HA1 := Lib.hid a1; have HB0 := Lib.hid b0; have HB1 := Lib.hid b1
  have HNV := Lib.hid hNV; have HNU := Lib.hid hNU; have HGCD := Lib.hid hgcd
  have HAO : Hid (w.cell? ⟨ba, oa, none⟩ = some (.bool an)) := (cell_of_row w _ _ _ _ (0, 0) ha).trans a0
  clear hz ha hb hc hcy a0 a1 b0 b1 hNV hNU hgcd
  go_enter Tryz.func195, Tryz.ntmps195
  go_wp2_with fail
  obtain ⟨w1, hw1⟩ : ∃ w1, w1 = w.alloc (.cells #[.bool false, .slice none 0 0] 212) := ⟨_, rfl⟩
  rw [← hw1]
  have hb1 : Below w.heap.size w w1 := by rw [hw1]; exact (Below.refl _ _).alloc (Nat.le_refl _) _
  have hs1 : w1.heap.size = w.heap.size + 1 := by rw [hw1]; simp
  have hq1 : w1.heap[w.heap.size]? = some (.cells #[.bool false, .slice none 0 0] 212 (0, 0)) := by rw [hw1]; exact heap_alloc_new _ _
  refine (IntAbs_some w.heap.size ba oa gx px cx n V ca 212 Ta false an w1 HNV.out.1 h0 (by omega) (by omega) hq1 ((hb1.block _ la).trans HA.out) HA0.out HA1.out (by omega) (fun i hi => (hb1.cell (p := ⟨gx, px + i, none⟩) hgx).trans (HC.out i hi))).mono ?_
  rintro e w2 ⟨rfl, g1, c1, f1, hh1, hg1, hn1, hr1, hf1, hch1⟩
  have hb2 : Below w.heap.size w w2 := Chg.below hb1 hb1.size hch1 (Nat.le_refl _)
  have hs2 : w.heap.size + 1 ≤ w2.heap.size := by have := hch1.size; omega
  have HOA := Lib.hid (show OwnI w.heap.size w2 w.heap.size n V from ⟨g1, c1, f1, hh1, hn1, hr1, hf1, by omega, by omega, Nat.le_refl _⟩)
  have HB2 := Lib.hid hb2; have HS2 := Lib.hid hs2
  clear hw1 hb1 hs1 hq1 hh1 hr1 hf1 hch1 hb2 hs2 hg1 hn1
  go_wp2_with fail
  obtain ⟨w3, hw3⟩ : ∃ w3, w3 = w2.alloc (.cells #[.bool false, .slice none 0 0] 212) := ⟨_, rfl⟩
  rw [← hw3]
  have hb23 : Below w2.heap.size w2 w3 := by rw [hw3]; exact (Below.refl _ _).alloc (Nat.le_refl _) _
  have hb3 : Below w.heap.size w w3 := HB2.out.trans (hb23.mono HB2.out.size)
  have hs3 : w3.heap.size = w2.heap.size + 1 := by rw [hw3]; simp
  have hq3 : w3.heap[w2.heap.size]? = some (.cells #[.bool false, .slice none 0 0] 212 (0, 0)) := by rw [hw3]; exact heap_alloc_new _ _
  have hs2 := HS2.out
  refine (IntAbs_some w2.heap.size bb ob gy py cy m U cb 212 Tb false bn w3 HNU.out.1 hm0 (by omega) (by omega) hq3 ((hb3.block _ lb).trans HB.out) HB0.out HB1.out (by omega) (fun i hi => (hb3.cell (p := ⟨gy, py + i, none⟩) hgy).trans (HCY.out i hi))).mono ?_
  rintro e w4 ⟨rfl, g2, c2, f2, hh2, hg2, hn2, hr2, hf2, hch2⟩
  have hb4 : Below w.heap.size w w4 := Chg.below hb3 hb3.size hch2 (by omega)
  have HOB := Lib.hid (show OwnI w.heap.size w4 w2.heap.size m U from ⟨g2, c2, f2, hh2, hn2, hr2, hf2, by omega, by omega, by omega⟩)
  have HOA4 : Hid (OwnI w.heap.size w4 w.heap.size n V) := by
    obtain ⟨g, c, f, k1, k2, k3, k4, k5, k6, k7⟩ := HOA.out
    have hl := k3.lt
    have e0 : ∀ k, k < w2.heap.size → w4.heap[k]? = w2.heap[k]? := fun k hk => (hch2.block k (by omega) (by omega)).trans (hb23.block k hk)
    exact ⟨g, c, f, (e0 _ (by omega)).trans k1, k2, k3.keep (e0 g hl), k4, k5, k6, k7⟩
  have hl4 : w2.heap.size < w4.heap.size := (Array.getElem?_eq_some_iff.1 hh2).1
  have HB4 := Lib.hid hb4; have HL4 := Lib.hid hl4
  clear hw3 hb23 hb3 hs3 hq3 hh2 hr2 hf2 hch2 hb4 hg2 hn2 hl4 HOA
  go_wp2_with fail
  obtain ⟨w5, hw5⟩ : ∃ w5, w5 = (w4.alloc (.cells #[.bool false, .slice none 0 0] 212)).alloc (.cells #[.bool false, .slice none 0 0] 212) := ⟨_, rfl⟩
  rw [← hw5]
  have hb45 : Below w4.heap.size w4 w5 := by rw [hw5]; exact ((Below.refl _ _).alloc (Nat.le_refl _) _).alloc (by simp) _
  have hq5 : NilI w5 w4.heap.size := by rw [hw5]; exact heap2_0 _ _ _
  have hr5 : NilI w5 (w4.heap.size + 1) := by rw [hw5]; exact heap2_1 _ _ _
  have hoa5 := HOA4.out.keep hb45.block
  have hob5 := HOB.out.keep hb45.block
  have hbb := HB4.out.trans (hb45.mono HB4.out.size)
  obtain ⟨sA, xa0, xa1, hwA⟩ := hoa5.words HNV.out h0 (by omega)
  obtain ⟨sB, xb0, xb1, hwB⟩ := hob5.words HNU.out hm0 (by omega)
  obtain ⟨cv, hcv⟩ : ∃ cv, cv = sgn3 V U := ⟨_, rfl⟩
  have hcm := fun k => cmp_words (w := w5.drewN k) (s := sA) (t := sB) hwA hwB
  rw [← hcv] at hcm
  have HCM := Lib.hid hcm
  have HCV := Lib.hid hcv
  have HQ5 := Lib.hid hq5; have HR5 := Lib.hid hr5; have HOA5 := Lib.hid hoa5; have HOB5 := Lib.hid hob5; have HBB := Lib.hid hbb
  clear hw5 hb45 hq5 hr5 hoa5 hob5 hbb hwA hwB HOA4 HOB hcm hcv
  go_quiet ((first | (go_at_call 179; with_reducible exact Calls.quiet_of (HCM.out _))))
  go_upto_if 60 with fail
  go_cut [11, 12, 13, 14] from 61 to 64 (fun a b c d wx => GT w wx a b c d w4.heap.size (w4.heap.size + 1) (max V U) (min V U))
  case first =>
    have hs2 := HS2.out
    have hl4 := HL4.out
    by_cases hVU : V < U
    · have hsg : cv < 0 := by rw [HCV.out]; unfold sgn3; rw [if_pos hVU]; decide
      have hn1 : n = 1 := by
        rcases hone with h | h
        · exact h
        · subst h
          rcases Nat.lt_or_ge 1 n with h2 | h2
          · exfalso
            have h3 := HNV.out.2 h0
            have h4 := HNU.out.1
            have h5 := Nat.pow_le_pow_right (n := 2) (by omega) (show 64 * 1 ≤ 64 * (n - 1) by omega)
            omega
          · omega
      go_wp2_with fail
      go_meet
      have hmx : max V U = U := Nat.max_eq_right (Nat.le_of_lt hVU)
      have hmn : min V U = V := Nat.min_eq_left (Nat.le_of_lt hVU)
      rw [hmx, hmn]
      refine ⟨w2.heap.size, w.heap.size, m, rfl, rfl, rfl, rfl, hm0, HNU.out, HOB5.out.keep (fun _ _ => rfl), ?_, below_drewN HBB.out, HQ5.out, HR5.out, by omega, by omega, by omega, by omega, by omega, by omega, by omega⟩
      have h := HOA5.out.keep (w' := w5.drewN nq) (fun _ _ => rfl)
      rwa [hn1] at h
    · have hsg : ¬ (cv < 0) := by
        rw [HCV.out]; unfold sgn3; rw [if_neg hVU]; split <;> decide
      have hm1 : m = 1 := by
        rcases hone with h | h
        · subst h
          rcases Nat.lt_or_ge 1 m with h2 | h2
          · exfalso
            have h3 := HNU.out.2 hm0
            have h4 := HNV.out.1
            have h5 := Nat.pow_le_pow_right (n := 2) (by omega) (show 64 * 1 ≤ 64 * (m - 1) by omega)
            omega
          · omega
        · exact h
      go_wp2_with fail
      go_meet
      have hmx : max V U = V := Nat.max_eq_left (by omega)
      have hmn : min V U = U := Nat.min_eq_right (by omega)
      rw [hmx, hmn]
      refine ⟨w.heap.size, w2.heap.size, n, rfl, rfl, rfl, rfl, h0, HNV.out, HOA5.out.keep (fun _ _ => rfl), ?_, below_drewN HBB.out, HQ5.out, HR5.out, by omega, by omega, by omega, by omega, by omega, by omega, by omega⟩
      have h := HOB5.out.keep (w' := w5.drewN nq) (fun _ _ => rfl)
      rwa [hm1] at h
  case rest =>
    obtain ⟨pa, pb, na, rfl, rfl, rfl, rfl, hna, hNA, hoa, hob, hbw, hq, hr, q1, q2, q3, q4, q5, lq, lr⟩ := hcut
    obtain ⟨X, hX⟩ : ∃ X, X = max V U := ⟨_, rfl⟩
    obtain ⟨y, hy⟩ : ∃ y, y = min V U := ⟨_, rfl⟩
    have hXy : y ≤ X := by rw [hX, hy]; omega
    have hg1 : Nat.gcd X y = 1 := by
      rcases Nat.lt_or_ge V U with h | h
      · rw [hX, hy, Nat.max_eq_right (by omega), Nat.min_eq_left (by omega), Nat.gcd_comm]; exact HGCD.out
      · rw [hX, hy, Nat.max_eq_left (by omega), Nat.min_eq_right (by omega)]; exact HGCD.out
    rw [← hX] at hNA hoa
    rw [← hy] at hob
    have hV0 := nw_val HNV.out h0
    have hU0 := nw_val HNU.out hm0
    have hy0 : 0 < y := by rw [hy]; omega
    have hyW : y < 18446744073709551616 := by
      rw [hy]
      rcases hone with h | h
      · have := HNV.out.1; rw [h, show (2 : Nat) ^ (64 * 1) = 18446744073709551616 by decide] at this; omega
      · have := HNU.out.1; rw [h, show (2 : Nat) ^ (64 * 1) = 18446744073709551616 by decide] at this; omega
    have hna2 : na ≤ 1048576 := by
      have h3 := hNA.2 hna
      rcases Nat.lt_or_ge 1048576 na with h | h
      · exfalso
        have h4 := HNV.out.1
        have h5 := HNU.out.1
        have h6 := Nat.pow_le_pow_right (n := 2) (by omega) (show 64 * n ≤ 64 * (na - 1) by omega)
        have h7 := Nat.pow_le_pow_right (n := 2) (by omega) (show 64 * m ≤ 64 * (na - 1) by omega)
        omega
      · exact h
    have HOA := Lib.hid hoa; have HOB := Lib.hid hob; have HBW := Lib.hid hbw; have HQ := Lib.hid hq; have HR := Lib.hid hr; have HNA := Lib.hid hNA; have HG1 := Lib.hid hg1
    clear hX hy hV0 hU0 hoa hob hbw hq hr hNA hg1 HOA5 HOB5 HBB HQ5 HR5 HB4 HCM
    obtain ⟨ga, cA, fa, a1, a2, a3, a4, a5, a6, a7⟩ := HOA.out
    obtain ⟨gb, cB, fb, b1, b2, b3, b4, b5, b6, b7⟩ := HOB.out
    have xa := (cell_of_row wc _ 1 _ _ (0, 0) a1).trans rfl
    have xb := (cell_of_row wc _ 1 _ _ (0, 0) b1).trans rfl
    have kb : wc.cell? ⟨gb, 0, none⟩ = some (.int .u64 y) := by
      rw [b3.cell (by omega), b4 0 (by omega)]
      have : wd y 0 = y := by unfold wd; simp; omega
      rw [this]
    have KB := Lib.hid kb; have A1 := Lib.hid a1; have B1 := Lib.hid b1; have A3 := Lib.hid a3; have A4 := Lib.hid a4; have B3 := Lib.hid b3
    have A2 := Lib.hid a2; have B2 := Lib.hid b2
    clear a1 a2 a3 a4 b1 b2 b3 b4 kb
    go_wp2_with fail
    refine wp_loop_rounds 1 ?_
    rw [rounds_succ]
    go_upto_if 128 with fail
    go_cut [11, 12] from 123 to 142 (fun a b wx => GU w wx a b)
    case first =>
      by_cases hna1 : na = 1
      · subst hna1
        go_wp2_with fail
        go_meet
        exact ⟨pa, pb, 1, X, y, _, rfl, rfl, by have := HNA.out.1; rw [show (2 : Nat) ^ (64 * 1) = 18446744073709551616 by decide] at this; exact this, HG1.out, HOA.out, HBW.out, B1.out, .inr ⟨rfl, hy0, hyW, gb, cB, rfl, KB.out⟩⟩
      · have E := Lib.hid (euclid_word pa pb w4.heap.size (w4.heap.size + 1) ga gb cA cB na X y wc (by omega) hna2 HNA.out hXy hy0 hyW A3.out.lt A1.out B1.out HQ.out HR.out (fun i hi => by rw [Nat.zero_add, A3.out.cell (by have := A2.out; omega), A4.out i hi]) KB.out q1 q2 q3 q4 q5)
        have hna3 : (1 : Int) < (na : Int) := by omega
        go_wp2_with fail
        refine E.out.mono ?_
        rintro e w7 ⟨rfl, h7⟩
        have H7 := Lib.hid h7
        clear h7
        go_wp2_with fail
        go_meet
        obtain ⟨s, l, t, k, m1, m2, _, hts, hNk, hk1, htn, hk, hsz, ho1, ho2, ho3⟩ := H7.out
        have hmod : X % y < y := Nat.mod_lt _ hy0
        have hkeep : ∀ k, k < w.heap.size → w7.heap[k]? = wc.heap[k]? := fun k h => hk k (by have := HBW.out.size; omega) (by omega) (by omega)
        have hbw7 : Below w.heap.size w w7 := HBW.out.trans ⟨ho1, ho2, ho3, by have := HBW.out.size; omega, hkeep⟩
        have hpb := (Array.getElem?_eq_some_iff.1 B1.out).1
        have hob7 : OwnI w.heap.size w7 pb 1 y := by
          obtain ⟨g, c, f, k1, k2, k3, k4, k5, k6, k7⟩ := HOB.out
          have hgl := k3.lt
          have n1 : g ≠ w4.heap.size := fun e => by
            obtain ⟨cs, r1, _⟩ := k3.ex
            have r2 := HQ.out
            unfold NilI at r2
            rw [← e, r1] at r2
            injection r2 with r2
            injection r2 with r2 r3
            exact absurd r3 (by decide)
          have n2 : g ≠ w4.heap.size + 1 := fun e => by
            obtain ⟨cs, r1, _⟩ := k3.ex
            have r2 := HR.out
            unfold NilI at r2
            rw [← e, r1] at r2
            injection r2 with r2
            injection r2 with r2 r3
            exact absurd r3 (by decide)
          exact ⟨g, c, f, (hk pb hpb (fun e => q3 e.symm) (fun e => q5 e.symm)).trans k1, k2, k3.keep (hk g hgl n1 n2), k4, k5, k6, k7⟩
        refine ⟨pb, w4.heap.size + 1, k, y, X % y, t, rfl, rfl, hyW, ?_, hob7, hbw7, m2, ?_⟩
        · rw [← HG1.out, Nat.gcd_comm X y, Nat.gcd_rec y X, Nat.gcd_comm]
        · rcases htn with ⟨h1, h2, h3⟩ | ⟨h1, h2, g, c, f, h3, h4, h5, h6, h7, h8⟩
          · exact .inl ⟨h1, h2, none, 0, h3⟩
          · have hk11 : k = 1 := by omega
            subst hk11
            have hwd : wd (X % y) 0 = X % y := by unfold wd; simp; omega
            exact .inr ⟨rfl, nw_val hNk (by omega), by omega, g, c, h3, by rw [h7.cell (by omega), h8 0 (by omega), hwd]⟩
    case rest =>
      clear HOA HOB HBW HQ HR HNA HG1 KB A1 B1 A3 A4 B3 A2 B2 xa xb
      obtain ⟨pa, pb, k, a, b, s, rfl, rfl, ha64, hg1, hoa, hbw, hbs, hcase⟩ := hcut
      obtain ⟨sa, sc, rfl⟩ : ∃ sa sc, s = .slice sa k sc := by
        rcases hcase with ⟨rfl, _, q, c, rfl⟩ | ⟨rfl, _, _, g, c, rfl, _⟩
        · exact ⟨q, c, rfl⟩
        · exact ⟨_, c, rfl⟩
      have xb := (cell_of_row wc _ 1 _ _ (0, 0) hbs).trans rfl
      have HOA := Lib.hid hoa; have HBW := Lib.hid hbw; have HG1 := Lib.hid hg1
      clear hoa hbw hg1 hbs
      go_upto_if 148 with fail
      go_cut [11] from 143 to 212 (fun x wx => GV w wx x)
      case first =>
        rcases hcase with ⟨rfl, rfl, _⟩ | ⟨rfl, hb0, hbW, g, c, hsl, hgb⟩
        · go_wp2_with fail
          go_meet
          have ha1 : a = 1 := by have := HG1.out; rwa [Nat.gcd_zero_right] at this
          rw [ha1] at HOA
          exact ⟨pa, rfl, HOA.out, HBW.out⟩
        · injection hsl with hsl1 hsl2 hsl3
          subst hsl1 hsl3
          obtain ⟨ga, cA, fa, a1, a2, a3, a4, a5, a6, a7⟩ := HOA.out
          have xa := (cell_of_row wc _ 1 _ _ (0, 0) a1).trans rfl
          have ka : wc.cell? ⟨ga, 0, none⟩ = some (.int .u64 a) := by
            rw [a3.cell (by omega), a4 0 (by omega)]
            have : wd a 0 = a := by unfold wd; simp; omega
            rw [this]
          have fa0 := a3.frozen 0
          have A1 := Lib.hid a1; have A3 := Lib.hid a3
          clear a1 a3 a4
          go_wp2_with fail
          go_quiet (fail)
          obtain ⟨w9, hw9⟩ : ∃ w9, w9 = wc.drewN nq := ⟨_, rfl⟩
          rw [← hw9]
          have y1 : w9.cell? ⟨pa, 1, none⟩ = some (.slice (some ⟨ga, 0, none⟩) 1 cA) := by rw [hw9]; exact xa
          have y2 : w9.cell? ⟨ga, 0, none⟩ = some (.int .u64 a) := by rw [hw9]; exact ka
          have y3 : w9.frozen? ⟨ga, 0, none⟩ = false := by rw [hw9]; exact fa0
          have B9 := Lib.hid (show Below w.heap.size w w9 by rw [hw9]; exact below_drewN HBW.out)
          have A9 := Lib.hid (show w9.heap[pa]? = some (.cells #[.bool false, .slice (some ⟨ga, 0, none⟩) 1 cA] 212 (0, 0)) by rw [hw9]; exact A1.out)
          have R9 := Lib.hid (show Row w9 ga 246 cA fa by rw [hw9]; exact A3.out.drewN _)
          clear hw9 xa ka fa0 A1 A3 xb hgb
          go_wp2_with fail
          go_loopw [23, 24] (fun x z wr => ∃ xn zn q : Nat, x = .int .u64 xn ∧ z = .int .u64 zn ∧ xn < 18446744073709551616 ∧ zn < 18446744073709551616 ∧ wr = w9.drewN q ∧ Hid (Nat.gcd xn zn = 1)) (fun _ z _ => (intOf z).toNat)
          case atStart => exact ⟨a, b, 0, rfl, rfl, ha64, hbW, rfl, HG1.out⟩
          case round =>
            obtain ⟨x, z, q, rfl, rfl, hx, hz, rfl, HGZ⟩ := hrel
            by_cases hz0 : z = 0
            · subst hz0
              have hx1 : x = 1 := by have := HGZ.out; rwa [Nat.gcd_zero_right] at this
              subst hx1
              go_wp2_with fail
              go_meet
              refine ⟨pa, rfl, ⟨ga, cA, _, ?_, a2, (R9.out.drewN q).set 0 _, fun i hi => ?_, a5, a6, a7⟩, ?_⟩
              · exact (Below.heap_setCell _ (⟨ga, 0, none⟩ : Addr) _ pa (fun e => a6 e.symm)).trans A9.out
              · obtain rfl : i = 0 := by omega
                show (if _ then _ else _) = _
                rw [if_pos rfl]; rfl
              · exact Below.setCell (below_drewN B9.out) a5 _
            · have hz1 : ((z : Int) != 0) = true := by simp; omega
              have hz2 : ((z : Int) == 0) = false := by simp; omega
              have hmod : (x : Int) % (z : Int) = ((x % z : Nat) : Int) := by simp
              have hml : x % z < z := Nat.mod_lt _ (by omega)
              have HM := Lib.hid hmod
              clear hmod
              go_wp2_with fail
              go_quiet (fail)
              go_wp2
              go_roundw
              case rel => exact ⟨z, x % z, _, rfl, by rw [HM.out], hz, by omega, (by rw [World.drewN_drewN]), by show _ = _; rw [Nat.gcd_comm, ← Nat.gcd_rec]; rw [Nat.gcd_comm]; exact HGZ.out⟩
              case measure => simp [intOf]; omega
      case rest =>
        clear HOA HBW HG1 hcase xb
        obtain ⟨pa, rfl, hoa, hbw⟩ := hcut
        obtain ⟨ga, cA, fa, a1, a2, a3, a4, a5, a6, a7⟩ := hoa
        have hao := (hbw.cell (p := ⟨ba, oa, none⟩) la).trans HAO.out
        have SET := Lib.hid (Int_Set_some zb 0 pa 0 ga 0 cA 1 1 #[.bool false, .slice none 0 0] #[.bool false, .slice (some ⟨ga, 0, none⟩) 1 cA] 212 212 false false wc (by decide) (by omega) (by omega) a3.lt ((hbw.block _ lz).trans HZ.out) a1 rfl rfl rfl rfl (by omega) (fun i hi => by
          obtain rfl : i = 0 := by omega
          rw [Nat.add_zero, a3.cell (by omega), a4 0 (by omega)]))
        have HBW := Lib.hid hbw
        clear a1 a3 a4 hbw
        go_wp2_with fail
        refine SET.out.mono ?_
        rintro e w8 ⟨rfl, s8, hnew, hch, hh⟩
        rcases hnew with ⟨h, _⟩ | ⟨_, _, g8, c8, f8, rfl, hg8, hc8, hc8', hr8, hf8⟩
        · omega
        have HH := Lib.hid hh; have HCH := Lib.hid hch; have HR8 := Lib.hid hr8; have HF8 := Lib.hid hf8
        clear hh hch hr8 hf8
        go_wp2
        go_ret
        refine ⟨rfl, g8, c8, HH.out, ?_, (Chg.of_below (HBW.out)).trans HCH.out⟩
        rw [HR8.out.cell (by omega), HF8.out 0 (by omega)]; rfl

end Go.Proofs.YtpcleebnfgnhdaaGreatDoor

/- Walks: Rat.norm of a fraction in its lowest terms, one part of which is a word. -/
set_option linter.unusedVariables false
set_option linter.unusedSimpArgs false
namespace Go.Proofs.YtpcleebnfgnhdaaGreatDoor
open Go.RowKit
open Num

set_option maxRecDepth 100000 in
set_option maxHeartbeats 400000 in
theorem norm_word (rb gx cx gy cy n m V U : Nat) (an bn : Bool) (w : World) (h0 : 0 < n) (hm0 : 0 < m) (hn : n ≤ 1048576) (hm : m ≤ 1048576) (hone : n = 1 ∨ m = 1) (hNV : Nw n V) (hNU : Nw m U) (hgcd : Nat.gcd V U = 1) (hgx : gx < w.heap.size) (hgy : gy < w.heap.size) (hxr : gx ≠ rb) (hyr : gy ≠ rb)
    (hz : w.heap[rb]? = some (.cells #[.bool an, .slice (some ⟨gx, 0, none⟩) n cx, .bool bn, .slice (some ⟨gy, 0, none⟩) m cy] 307 (0, 0)))
    (hc : ∀ i, i < n → w.cell? ⟨gx, 0 + i, none⟩ = some (.int .u64 (wd V i))) (hcy : ∀ i, i < m → w.cell? ⟨gy, 0 + i, none⟩ = some (.int .u64 (wd U i))) :
    Calls Tryz.prog 183 #[.pointer (some ⟨rb, 0, none⟩)] w fun e w' => e = .returned (.pointer (some ⟨rb, 0, none⟩)) ∧ w'.heap[rb]? = some (.cells #[.bool an, .slice (some ⟨gx, 0, none⟩) n cx, .bool false, .slice (some ⟨gy, 0, none⟩) m cy] 307 (0, 0)) ∧ Chg rb w w' := by
  have lr := (Array.getElem?_eq_some_iff.1 hz).1
  have z0 := (cell_of_row w _ 0 _ _ (0, 0) hz).trans rfl
  have z1 := (cell_of_row w _ 1 _ _ (0, 0) hz).trans rfl
  have z2 := (cell_of_row w _ 2 _ _ (0, 0) hz).trans rfl
  have z3 := (cell_of_row w _ 3 _ _ (0, 0) hz).trans rfl
  have f0 : ∀ i, w.frozen? ⟨rb, i, none⟩ = false := fun i => by simp [World.frozen?, hz]
  have HZ := Lib.hid hz; have HC := Lib.hid hc; have HCY := Lib.hid hcy
  clear hz hc hcy
  go_enter_defers Tryz.func183, Tryz.ntmps183
  go_wp2_with fail
  refine (getStack_any _).mono ?_
  rintro e w1 ⟨rfl, rfl⟩
  obtain ⟨w1, hw1⟩ : ∃ w1, w1 = w.alloc (.cells #[.pointer none] 318) := ⟨_, rfl⟩
  rw [← hw1]
  have hb1 : Below w.heap.size w w1 := by rw [hw1]; exact (Below.refl _ _).alloc (Nat.le_refl _) _
  have hs1 : w1.heap.size = w.heap.size + 1 := by rw [hw1]; simp
  have hz1 := (hb1.block _ lr).trans HZ.out
  have hst1 : w1.heap[w.heap.size]? = some (.cells #[.pointer none] 318 (0, 0)) := by rw [hw1]; exact heap_alloc_new _ _
  have y0 := (cell_of_row w1 _ 0 _ _ (0, 0) hz1).trans rfl
  have y2 := (cell_of_row w1 _ 2 _ _ (0, 0) hz1).trans rfl
  have g1 : ∀ i, w1.frozen? ⟨rb, i, none⟩ = false := fun i => by simp [World.frozen?, hz1]
  have HB1 := Lib.hid hb1; have HS1 := Lib.hid hs1; have HZ1 := Lib.hid hz1; have HST1 := Lib.hid hst1
  clear hw1 hb1 hs1 hz1 hst1
  go_wp2_with fail
  obtain ⟨w2, hw2⟩ : ∃ w2, w2 = (w1.setCell ⟨rb, 0, none⟩ (.bool false)).setCell ⟨rb, 2, none⟩ (.bool false) := ⟨_, rfl⟩
  rw [← hw2]
  have hz2 : w2.heap[rb]? = some (.cells #[.bool false, .slice (some ⟨gx, 0, none⟩) n cx, .bool false, .slice (some ⟨gy, 0, none⟩) m cy] 307 (0, 0)) := by
    rw [hw2]; exact set1 (i := 2) (x := .bool false) (set1 (i := 0) (x := .bool false) HZ1.out)
  have hs2 : w2.heap.size = w.heap.size + 1 := by rw [hw2]; simpa [World.setCell] using HS1.out
  have hch2 : Chg rb w w2 := by rw [hw2]; exact ((Chg.of_below HB1.out).set _ _).set _ _
  have hst2 : w2.heap[w.heap.size]? = some (.cells #[.pointer none] 318 (0, 0)) := by
    rw [hw2, Below.heap_setCell _ _ _ _ (by show w.heap.size ≠ rb; omega), Below.heap_setCell _ _ _ _ (by show w.heap.size ≠ rb; omega)]; exact HST1.out
  have hz3 : (w2.drew.alloc (.cells #[.bool false, .slice none 0 0] 212)).heap[w2.heap.size]? = some (.cells #[.bool false, .slice none 0 0] 212 (0, 0)) := heap_alloc_new w2.drew _
  have hb3 : Below w2.heap.size w2 (w2.drew.alloc (.cells #[.bool false, .slice none 0 0] 212)) := (below_undrewN (n := 0) ((Below.refl _ _).drew)).alloc (Nat.le_refl _) _
  have hr3 := (hb3.block rb (by omega)).trans hz2
  have HL := Lib.hid (lehmer_word w2.heap.size rb 0 rb 2 gx 0 cx gy 0 cy n m V U 307 307 _ _ false false (w2.drew.alloc (.cells #[.bool false, .slice none 0 0] 212)) h0 hm0 hn hm hone hNV hNU hgcd (by have := hb3.size; omega) (by have := hb3.size; omega) hz3 hr3 rfl rfl hr3 rfl rfl
    (fun i hi => by rw [hb3.cell (p := ⟨gx, 0 + i, none⟩) (by show gx < _; omega), hch2.cell (p := ⟨gx, 0 + i, none⟩) hgx hxr]; exact HC.out i hi) (fun i hi => by rw [hb3.cell (p := ⟨gy, 0 + i, none⟩) (by show gy < _; omega), hch2.cell (p := ⟨gy, 0 + i, none⟩) hgy hyr]; exact HCY.out i hi))
  have HN := Lib.hid (NewInt_zero w2.drew)
  have HS2 := Lib.hid hs2; have HCH2 := Lib.hid hch2; have HST2 := Lib.hid hst2; have HZ2 := Lib.hid hz2; have HB3 := Lib.hid hb3
  clear hw2 hz2 hs2 hch2 hst2 hz3 hb3 hr3 y0 y2 g1 z0 z1 z2 z3 f0 hNV hNU hgcd
  refine wp_region_noPanic ?_
  go_region_law (first | (go_simp; go_at_call 92; refine HN.out.mono ?_; rintro e w3 ⟨rfl, rfl⟩) | (go_simp; go_at_call 195; refine HL.out.mono ?_; rintro e w4 ⟨rfl, g4, c4, h4, k4, ch4⟩; have H4 := Lib.hid h4; have K4 := Lib.hid k4; have CH4 := Lib.hid ch4; clear h4 k4 ch4))
  all_goals refine NoPanic.normal ?_
  all_goals go_wp2_with fail
  all_goals (
    refine (intOne_any _).mono ?_
    rintro e w5 ⟨rfl, hw5⟩
    have hs2 := HS2.out
    have hsz4 : w2.heap.size + 1 ≤ w4.heap.size := by have := CH4.out.size; simpa using this
    have hb45 : Below w4.heap.size w4 w5 := by rw [hw5]; exact ((Below.refl _ _).alloc (Nat.le_refl _) _).alloc (by simp) _
    have hI5 : w5.heap[w4.heap.size + 1]? = some (.cells #[.bool false, .slice (some ⟨w4.heap.size, 0, none⟩) 1 1] 212 (0, 0)) := by rw [hw5]; exact heap2_1 _ _ _
    have hk5 : w5.cell? ⟨w4.heap.size, 0, none⟩ = some (.int .u64 1) := by rw [hw5]; exact (cell_of_row _ _ 0 _ _ (0, 0) (heap2_0 _ _ _)).trans rfl
    have h45 := (hb45.block _ (Array.getElem?_eq_some_iff.1 H4.out).1).trans H4.out
    have hg4 : g4 < w4.heap.size := by
      have := K4.out
      rcases Nat.lt_or_ge g4 w4.heap.size with h | h
      · exact h
      · simp [World.cell?, Array.getElem?_eq_none h] at this
    have hk45 : w5.cell? ⟨g4, 0, none⟩ = some (.int .u64 1) := (hb45.cell (p := ⟨g4, 0, none⟩) hg4).trans K4.out
    have hr4 : w4.heap[rb]? = some (.cells #[.bool false, .slice (some ⟨gx, 0, none⟩) n cx, .bool false, .slice (some ⟨gy, 0, none⟩) m cy] 307 (0, 0)) := by
      rw [CH4.out.block rb (by have := HB3.out.size; omega) (by omega), HB3.out.block rb (by omega)]; exact HZ2.out
    have hr5 := (hb45.block rb (by omega)).trans hr4
    have hst5 : w5.heap[w.heap.size]? = some (.cells #[.pointer none] 318 (0, 0)) := by
      rw [hb45.block _ (by omega), CH4.out.block _ (by have := HB3.out.size; omega) (by omega), HB3.out.block _ (by omega)]; exact HST2.out
    have hch5 : Chg rb w w5 := by
      have c1 : Chg rb w (w2.drew.alloc (.cells #[.bool false, .slice none 0 0] 212)) := HCH2.out.drew.alloc _
      have c2 : Chg rb w w4 := ⟨CH4.out.os.trans c1.os, CH4.out.tape.trans c1.tape, CH4.out.output.trans c1.output, Nat.le_trans c1.size CH4.out.size, fun i hi hg => (CH4.out.block i (by have := c1.size; omega) (by omega)).trans (c1.block i hi hg)⟩
      exact ⟨hb45.os.trans c2.os, hb45.tape.trans c2.tape, hb45.output.trans c2.output, Nat.le_trans c2.size hb45.size, fun i hi hg => (hb45.block i (by have := c2.size; omega)).trans (c2.block i hi hg)⟩
    have HCM := Lib.hid (Cmp_same1 w2.heap.size (w4.heap.size + 1) g4 w4.heap.size c4 1 1 212 212 w5 (by decide) h45 hI5 (by omega) hk45 hk5)
    have HR5 := Lib.hid hr5; have HST5 := Lib.hid hst5; have HCH5 := Lib.hid hch5
    clear hw5 hb45 hI5 hk5 h45 hg4 hk45 hr4 hr5 hst5 hch5 hs2 hsz4
    go_wp2_with fail
    refine HCM.out.mono ?_
    rintro e w6 ⟨rfl, kk, hw6⟩
    have hr6 : w6.heap[rb]? = some (.cells #[.bool false, .slice (some ⟨gx, 0, none⟩) n cx, .bool false, .slice (some ⟨gy, 0, none⟩) m cy] 307 (0, 0)) := by rw [hw6]; exact HR5.out
    have hst6 : w6.heap[w.heap.size]? = some (.cells #[.pointer none] 318 (0, 0)) := by rw [hw6]; exact HST5.out
    have hch6 : Chg rb w w6 := by rw [hw6]; exact HCH5.out.drewN kk
    have y0 := (cell_of_row w6 _ 0 _ _ (0, 0) hr6).trans rfl
    have g1 : ∀ i, w6.frozen? ⟨rb, i, none⟩ = false := fun i => by simp [World.frozen?, hr6]
    have HR6 := Lib.hid hr6; have HST6 := Lib.hid hst6; have HCH6 := Lib.hid hch6
    clear hw6 hr6 hst6 hch6
    go_wp2
    refine leaves_cons (f := 171) (args := #[.pointer (some ⟨w.heap.size, 0, none⟩)]) (by simp) (by simp [go_sem]) ?_
    refine (free_deferred ⟨w.heap.size, 0, none⟩ .returning _ ?_).mono ?_
    · exact (cell_of_row _ _ 0 _ _ (0, 0) ((Below.heap_setCell w6 (⟨rb, 0, none⟩ : Addr) _ w.heap.size (by show w.heap.size ≠ rb; omega)).trans HST6.out)).trans rfl
    rintro e u' w'' ⟨rfl, rfl, rfl⟩
    exact ⟨_, results_tmp rfl _ _ _, rfl, set1 (i := 0) (x := .bool an) HR6.out, HCH6.out.set _ _⟩)

end Go.Proofs.YtpcleebnfgnhdaaGreatDoor

/- Walks: nat.mul of numbers of few words. -/
set_option linter.unusedVariables false
set_option linter.unusedSimpArgs false
namespace Go.Proofs.YtpcleebnfgnhdaaGreatDoor
open Go.RowKit
open Num

theorem alias_nil (a : Option Addr) (n c : Nat) (w : World) :
    Calls Tryz.prog 186 #[.slice none 0 0, .slice a n c] w fun e w' => e = .returned (.bool false) ∧ ∃ k, w' = w.drewN k := by
  go_enter Tryz.func186, Tryz.ntmps186
  go_wp2_with fail
  go_quiet (fail)
  go_wp2
  go_ret
  exact ⟨rfl, _, rfl⟩

theorem mul_ge (st : Option Addr) (n m X Y : Nat) (s t : Value) (w : World) (hX : Words w s n X) (hY : Words w t m Y) (hnm : m ≤ n) (hn : n ≤ 1048576) (hm : m ≤ 39) (hk : KT w) :
    Calls Tryz.prog 178 #[.slice none 0 0, .pointer st, s, t] w fun e w' => ProdIs w w' e (X * Y) := by
  obtain ⟨sa, sc, rfl⟩ := hX.shape
  obtain ⟨ta, tc, rfl⟩ := hY.shape
  have h1 : decide ((n : Int) < (m : Int)) = false := by simp; omega
  by_cases hm0 : m = 0
  · subst hm0
    obtain rfl : Y = 0 := hY.1.zero_iff.1 rfl
    have h1' : decide ((n : Int) < 0) = false := by simp
    have hfin : ∀ w : World, ProdIs w w (.returned (.slice none 0 0)) (X * 0) := fun w => ⟨_, 0, rfl, ⟨by simp, fun h => absurd h (by omega)⟩, by omega, .inl ⟨rfl, by simp, rfl⟩, Below.refl _ _⟩
    have HF := Lib.hid hfin
    clear hX hY hk h1 hfin
    by_cases hn0 : n = 0
    · subst hn0
      go_enter_defers Tryz.func178, Tryz.ntmps178
      go_wp2
      exact ⟨_, results_tmp rfl _ _ _, HF.out _⟩
    · have e2 : ((n : Int) == 0) = false := by simp; omega
      go_enter_defers Tryz.func178, Tryz.ntmps178
      go_wp2
      exact ⟨_, results_tmp rfl _ _ _, HF.out _⟩
  · have e2 : ((n : Int) == 0) = false := by simp; omega
    have e3 : ((m : Int) == 0) = false := by simp; omega
    rcases hX.2.2 with ⟨h, _⟩ | ⟨hn0, gx, px, cx, hs, hgx, hcx⟩
    · omega
    rcases hY.2.2 with ⟨h, _⟩ | ⟨hm00, gy, py, cy, ht, hgy, hcy⟩
    · omega
    injection hs with hs1 hs2 hs3
    injection ht with ht1 ht2 ht3
    subst hs1 hs3 ht1 ht3
    have HCX := Lib.hid hcx; have HCY := Lib.hid hcy
    have HNX := Lib.hid hX.1; have HNY := Lib.hid hY.1
    by_cases hm1 : m = 1
    · subst hm1
      have hy1 : w.cell? ⟨gy, py, none⟩ = some (.int .u64 (wd Y 0)) := hcy 0 (by omega)
      have hy2 : wd Y 0 = Y := by have := hY.1.1; unfold wd; simp; omega
      rw [hy2] at hy1
      have hY0 : 0 < Y := by
        rcases Nat.eq_zero_or_pos Y with h | h
        · have := hY.1.zero_iff.2 h; omega
        · exact h
      have HM := Lib.hid (mulAddWW_any gx px sc n X Y w hn0 (by omega) hX.1.1 hgx hY0 (by have h := hY.1.1; rw [show (2 : Nat) ^ (64 * 1) = 18446744073709551616 by decide] at h; exact h) hcx)
      clear hX hY hk hcx hcy hy2
      go_enter_defers Tryz.func178, Tryz.ntmps178
      go_wp2_with fail
      refine HM.out.mono ?_
      rintro e w2 ⟨l, c, rfl, hN, hl, hlc, hc5, hb, f, hr, hf⟩
      have H := Lib.hid (And.intro hN (And.intro hb (And.intro hr hf)))
      clear hN hb hr hf
      go_wp2
      refine ⟨_, results_tmp rfl _ _ _, _, l, rfl, H.out.1, by omega, ?_, H.out.2.1⟩
      by_cases hl0 : l = 0
      · have h0 := H.out.1.zero_iff.1 hl0
        exact absurd (Nat.mul_pos (show 0 < X by
          rcases Nat.eq_zero_or_pos X with h | h
          · have := HNX.out.zero_iff.2 h; omega
          · exact h) hY0) (by rw [h0]; exact Nat.lt_irrefl 0)
      · exact .inr ⟨by omega, H.out.1.1, w.heap.size, c, f, rfl, Nat.le_refl _, hlc, by omega, H.out.2.2.1, H.out.2.2.2⟩
    · have e4 : ((m : Int) == 1) = false := by simp; omega
      have hk2 : w.cell? ⟨2, 0, none⟩ = some (.int .i64 40) := hk
      clear hX hY hcx hcy
      go_enter_defers Tryz.func178, Tryz.ntmps178
      go_wp2_with fail
      refine (alias_nil _ _ _ _).mono ?_
      rintro e w1 ⟨rfl, k1, rfl⟩
      go_wp2_with fail
      refine (alias_nil _ _ _ _).mono ?_
      rintro e w2 ⟨rfl, k2, rfl⟩
      go_wp2_with fail
      obtain ⟨w3, hw3⟩ : ∃ w3, w3 = w.drewN (k1 + k2) := ⟨_, rfl⟩
      rw [← hw3]
      have hh3 : w3.heap = w.heap := by rw [hw3]; rfl
      have hb3 : Below w.heap.size w w3 := by rw [hw3]; exact ⟨rfl, rfl, rfl, Nat.le_refl _, fun _ _ => rfl⟩
      have hmk := make_gt none 0 0 (n + m) w3 (by omega) (by omega)
      rw [Int.natCast_add] at hmk
      have HMK := Lib.hid hmk
      have HB3 := Lib.hid hb3; have HH3 := Lib.hid hh3
      have hz3 : w3.heap.size = w.heap.size := by rw [hh3]
      have HZ3 := Lib.hid hz3
      clear hw3 hh3 hb3 hmk hz3
      refine HMK.out.mono ?_
      rintro e w' ⟨c, hc1, ⟨hc2, _⟩, rfl, rfl⟩
      have hrow := Row.made w3 246 c (.int .u64 0)
      obtain ⟨w4, hw4⟩ : ∃ w4, w4 = w3.alloc (.cells (madeCells #[.int .u64 0] c) 246) := ⟨_, rfl⟩
      rw [← hw4] at hrow ⊢
      have hb4 : Below w.heap.size w w4 := by rw [hw4]; exact HB3.out.alloc (by have := HZ3.out; omega) _
      have hk4 : w4.cell? ⟨2, 0, none⟩ = some (.int .i64 40) := KT.below hk hb4
      have hz4 : w4.heap.size = w.heap.size + 1 := by rw [hw4]; have := HZ3.out; simp; omega
      obtain ⟨g, hg⟩ : ∃ g, g = w3.heap.size := ⟨_, rfl⟩
      rw [← hg] at hrow ⊢
      have hgw : g = w.heap.size := by rw [hg, HZ3.out]
      have HBM := Lib.hid (basicMul_any g c c gx px sc n X gy py tc m Y _ w4 hrow (by omega) (by omega) (by omega) (by omega) hn0 hm00 (by omega) (by omega) hc1 hc1 HNX.out.1 HNY.out.1 (by omega)
        (fun i hi => (hb4.cell (p := ⟨gx, px + i, none⟩) hgx).trans (HCX.out i hi)) (fun i hi => (hb4.cell (p := ⟨gy, py + i, none⟩) hgy).trans (HCY.out i hi)))
      have HB4 := Lib.hid hb4; have HG := Lib.hid hgw; have HZ4 := Lib.hid hz4
      clear hw4 hrow hb4 hg hgw hz4 hk2
      go_wp2_with fail
      refine HBM.out.mono ?_
      rintro e w5 ⟨rfl, hch, f5, hr5, hf5⟩
      have hlt : X * Y < 2 ^ (64 * (n + m)) := by
        rw [show 64 * (n + m) = 64 * n + 64 * m by omega, Nat.pow_add]
        exact Nat.mul_lt_mul_of_lt_of_le HNX.out.1 (Nat.le_of_lt HNY.out.1) (Nat.two_pow_pos _)
      have HN := Lib.hid (norm_row hr5 hf5 hlt hc1 (by omega))
      have HCH := Lib.hid hch; have HR5 := Lib.hid hr5; have HF5 := Lib.hid hf5
      clear hch hr5 hf5 hlt
      go_wp2_with fail
      refine HN.out.mono ?_
      rintro e w6 ⟨⟨l, hl, hNl, rfl⟩, rfl⟩
      have HNL := Lib.hid hNl
      clear hNl
      go_wp2
      have hg := HG.out
      refine ⟨_, results_tmp rfl _ _ _, _, l, rfl, HNL.out, by omega, ?_, Chg.below HB4.out HB4.out.size HCH.out.1 (by omega)⟩
      by_cases hl0 : l = 0
      · have h0 := HNL.out.zero_iff.1 hl0
        have hX0 : 0 < X := by
          rcases Nat.eq_zero_or_pos X with h | h
          · have := HNX.out.zero_iff.2 h; omega
          · exact h
        have hY0 : 0 < Y := by
          rcases Nat.eq_zero_or_pos Y with h | h
          · have := HNY.out.zero_iff.2 h; omega
          · exact h
        exact absurd (Nat.mul_pos hX0 hY0) (by rw [h0]; exact Nat.lt_irrefl 0)
      · exact .inr ⟨by omega, HNL.out.1, g, c, f5, rfl, by omega, by omega, by omega, HR5.out, fun i hi => HF5.out i (by omega)⟩

theorem mul_any (st : Option Addr) (n m X Y : Nat) (s t : Value) (w : World) (hX : Words w s n X) (hY : Words w t m Y) (hn : n ≤ 1048576) (hm : m ≤ 1048576) (h39 : n ≤ 39 ∨ m ≤ 39) (hk : KT w) :
    Calls Tryz.prog 178 #[.slice none 0 0, .pointer st, s, t] w fun e w' => ProdIs w w' e (X * Y) := by
  by_cases hnm : m ≤ n
  · exact mul_ge st n m X Y s t w hX hY hnm hn (by omega) hk
  · have H := Lib.hid (mul_ge st m n Y X t s w hY hX (by omega) hm (by omega) hk)
    rw [Nat.mul_comm] at H
    obtain ⟨sa, sc, rfl⟩ := hX.shape
    obtain ⟨ta, tc, rfl⟩ := hY.shape
    have h1 : decide ((n : Int) < (m : Int)) = true := by simp; omega
    clear hX hY hk
    go_enter_defers Tryz.func178, Tryz.ntmps178
    go_wp2_with fail
    refine H.out.mono ?_
    rintro e w2 ⟨s', l, rfl, h⟩
    have HH := Lib.hid h; clear h
    go_wp2
    exact ⟨_, results_tmp rfl _ _ _, s', l, rfl, HH.out⟩

end Go.Proofs.YtpcleebnfgnhdaaGreatDoor
