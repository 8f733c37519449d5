import Derived.Test.YtjkmppdmejgjiaaGreatDoorEz34
import Derived.Test.YtjkmppdmejgjiaaGreatDoorEz35
/- Walks: spec.Equal of dicts. -/
set_option linter.unusedVariables false
set_option linter.unusedSimpArgs false
namespace Go.Proofs.YtjkmppdmejgjiaaGreatDoor
open Go.RowKit
open Num

/-- the pair j of l is one of m's -/
def pairIn (f : Tr → Tr → Bool) (l m : List Tr) (j : Nat) : Bool := dictIn.lookIn f (l.getD (2 * j) .non) (l.getD (2 * j + 1) .non) m
theorem dictIn_pairs {f : Tr → Tr → Bool} {l m : List Tr} (he : l.length % 2 = 0) : dictIn f m l = true ↔ ∀ j, 2 * j < l.length → pairIn f l m j = true := by
  rw [dictIn_all l he]
  unfold pairIn
  constructor
  · intro h j hj
    have := h j (by rw [keysOf_length]; omega)
    rwa [keysOf_getD l j he, valsOf_getD l j he] at this
  · intro h j hj
    rw [keysOf_length] at hj
    rw [keysOf_getD l j he, valsOf_getD l j he]
    exact h j (by omega)
theorem pairIn_none {f : Tr → Tr → Bool} {l m : List Tr} {j : Nat} (he : m.length % 2 = 0) (h : ∀ i (h : i * 2 < m.length), f m[i * 2] (l.getD (2 * j) .non) = false) : pairIn f l m j = false := by
  refine lookIn_none m he (fun i hi => ?_)
  rw [keysOf_length] at hi
  rw [keysOf_getD m i he, getD_el (show 2 * i < m.length by omega)]
  have := h i (by omega)
  rwa [show m[i * 2]'(by omega) = m[2 * i]'(by omega) by congr 1; omega] at this
theorem pairIn_at {f : Tr → Tr → Bool} {l m : List Tr} {j i : Nat} (he : m.length % 2 = 0) (hi : i * 2 < m.length) (h1 : f m[i * 2] (l.getD (2 * j) .non) = true) (h2 : ∀ i' (h : i' * 2 < m.length), i' < i → f m[i' * 2] (l.getD (2 * j) .non) = false) :
    pairIn f l m j = f (l.getD (2 * j + 1) .non) (m.getD (i * 2 + 1) .non) := by
  have e : ∀ i' (h : i' * 2 < m.length), (keysOf m).getD i' .non = m[i' * 2] := fun i' h => by
    rw [keysOf_getD m i' he, getD_el (show 2 * i' < m.length by omega)]
    congr 1; omega
  unfold pairIn
  rw [lookIn_at m i he (by rw [keysOf_length]; omega) (fun i' hi' => by rw [e i' (by omega)]; exact h2 i' (by omega) hi') (by rw [e i hi]; exact h1), valsOf_getD m i he, show 2 * i + 1 = i * 2 + 1 by omega]

set_option maxRecDepth 100000 in
set_option maxHeartbeats 8000000 in
theorem SEq_dic (P Q : Value → Tr → Prop) (f : Tr → Tr → Bool) (ks ks' : Value) (l l' : List Tr) (hl : l.length ≤ 1000000) (hl' : l'.length ≤ 1000000) (he : l.length % 2 = 0) (he' : l'.length % 2 = 0) (w : World) (hs : KidsAt w P ks l) (ht : KidsAt w Q ks' l')
    (hP6 : ∀ u T, T ∈ l → P u T → ∃ k n a m c b s a2 m2 c2, u = sixV k n a m c b s a2 m2 c2) (hQ6 : ∀ u T, T ∈ l' → Q u T → ∃ k n a m c b s a2 m2 c2, u = sixV k n a m c b s a2 m2 c2)
    (hF : ∀ u i W (h : 2 * i < l.length), P u (l.getD (2 * i) .non) → Below w.heap.size w W → Calls Tryz.prog 24 #[ks', .int .i64 2, u] W fun e w' => ∃ r : Int, e = .returned (.int .i64 r) ∧ FoundAt (fun y => f y (l.getD (2 * i) .non)) 2 l' r ∧ Below W.heap.size W w')
    (hE : ∀ u v x y W, x ∈ l → y ∈ l' → P u x → Q v y → Below w.heap.size w W → Calls Tryz.prog 8 #[u, v] W fun e w' => e = .returned (.bool (f x y)) ∧ Below W.heap.size W w') :
    Calls Tryz.prog 8 #[valSix 8 0 ⟨#[]⟩ ks, valSix 8 0 ⟨#[]⟩ ks'] w fun e w' => e = .returned (.bool (l.length == l'.length && dictIn f l' l)) ∧ Below w.heap.size w w' := by
  obtain ⟨sa, sc, rfl⟩ := hs.shape
  obtain ⟨ta, tc, rfl⟩ := ht.shape
  obtain ⟨w1, hw1⟩ : ∃ w1, w1 = (w.alloc (sixO 8 false none 0 0 0 ⟨#[]⟩ sa l.length sc)).alloc (sixO 8 false none 0 0 0 ⟨#[]⟩ ta l'.length tc) := ⟨_, rfl⟩
  obtain ⟨r0, r1, hb1, _⟩ := two_new w (sixO 8 false none 0 0 0 ⟨#[]⟩ sa l.length sc) (sixO 8 false none 0 0 0 ⟨#[]⟩ ta l'.length tc)
  rw [← hw1] at r0 r1 hb1
  have HN1 := Lib.hid (fun W => snumber_no 8 false none 0 0 0 ⟨#[]⟩ sa l.length sc ⟨by omega, by omega⟩ W)
  have HW1 := Lib.hid hw1; have HB1 := Lib.hid hb1; have HR0 := Lib.hid r0; have HR1 := Lib.hid r1
  have HFF := Lib.hid (fun u i W (h : 2 * i < l.length) (hu : P u (l.getD (2 * i) .non)) (hb : Below w1.heap.size w1 W) => hF u i W h hu (HB1.out.trans (hb.mono HB1.out.size)))
  have HEE := Lib.hid (fun u v x y W (hx : x ∈ l) (hy : y ∈ l') (hu : P u x) (hv : Q v y) (hb : Below w1.heap.size w1 W) => hE u v x y W hx hy hu hv (HB1.out.trans (hb.mono HB1.out.size)))
  have HS := Lib.hid hs; have HT := Lib.hid ht; have HP6 := Lib.hid hP6; have HQ6 := Lib.hid hQ6
  obtain ⟨x0, x1, x2, x3, x4, x5⟩ := box6 r0 (Below.refl _ _)
  obtain ⟨R, hR⟩ : ∃ R, R = (l.length == l'.length && dictIn f l' l) := ⟨_, rfl⟩
  rw [← hR]
  have HR := Lib.hid hR
  obtain ⟨n, hnn⟩ : ∃ n, n = l.length := ⟨_, rfl⟩
  obtain ⟨m, hmm⟩ : ∃ m, m = l'.length := ⟨_, rfl⟩
  have HNN := Lib.hid hnn; have HMM := Lib.hid hmm; have HEV := Lib.hid he; have HEV' := Lib.hid he'
  rw [← hnn] at hl HN1 HW1 HR0 x5 ⊢
  rw [← hmm] at hl' HW1 HR1 HFF ⊢
  rw [← hnn] at he
  clear hw1 r0 r1 hb1 hF hE hs ht hP6 hQ6 hR hnn hmm he'
  by_cases hn : n = m
  · have hni : ((n : Int) != (m : Int)) = false := by simp; omega
    have HN := Lib.hid hn
    have HRR := Lib.hid (show R = true ↔ ∀ j, 2 * j < l.length → pairIn f l l' j = true by
      rw [HR.out, Bool.and_eq_true, beq_iff_eq, dictIn_pairs HEV.out]
      exact ⟨fun h => h.2, fun h => ⟨by have := HNN.out; have := HMM.out; omega, h⟩⟩)
    clear hn
    go_enter Tryz.func8, Tryz.ntmps8
    go_wp2_with fail
    rw [← HW1.out]
    go_wp2_with fail
    refine (HN1.out _).mono ?_
    rintro e w2 ⟨rfl, hb2⟩
    have HB2 := Lib.hid hb2
    obtain ⟨y0, y1, y2, y3, y4, y5⟩ := box6 HR0.out hb2
    obtain ⟨z0, z1, z2, z3, z4, z5⟩ := box6 HR1.out hb2
    clear hb2
    go_wp2
    clear y0 y1 y2 y3 y4 y5 z0 z1 z2 z3 z4 z5 x0 x1 x2 x3 x4 x5
    go_loopw [5] (fun i wr => ∃ k : Nat, k ≤ n ∧ k % 2 = 0 ∧ i = .int .i64 k ∧ Below w1.heap.size w1 wr ∧ Hid (∀ j, 2 * j < k → pairIn f l l' j = true)) (fun i _ => n - (intOf i).toNat)
    case atStart => exact ⟨0, by omega, rfl, rfl, HB2.out, Lib.hid (fun j h => absurd h (by omega))⟩
    case round =>
      obtain ⟨k, hk, hk2, rfl, hb, HA⟩ := hrel
      have HB := Lib.hid hb; clear hb
      obtain ⟨y0, y1, y2, y3, y4, y5⟩ := box6 HR0.out HB.out
      obtain ⟨z0, z1, z2, z3, z4, z5⟩ := box6 HR1.out HB.out
      obtain ⟨q, hq⟩ : ∃ q, q = k + 1 := ⟨_, rfl⟩
      have hj1 : IntKind.i64.wrap ((k : Int) + 1) = (q : Int) := by simp only [IntKind.wrap_i64]; omega
      have hj2 : wrap64 ((k : Int) + 1) = (q : Int) := by unfold wrap64; omega
      by_cases hkn : q < n
      · have hlt : (q : Int) < (n : Int) := by omega
        have hltk : (k : Int) < (n : Int) := by omega
        have hkl : k < l.length := by have := HNN.out; omega
        have hql : q < l.length := by have := HNN.out; omega
        obtain ⟨jj, hjj⟩ : ∃ jj, k = 2 * jj := ⟨k / 2, by omega⟩
        have HJJ := Lib.hid hjj
        rcases HS.out with ⟨h0, _⟩ | ⟨h0, g, p, c, e, hc, hc2, hg, hkk⟩
        · rw [h0] at hkl; simp at hkl
        · injection e with q1 _ q3
          subst q1; subst q3
          have hg1 : g < w1.heap.size := Nat.lt_of_lt_of_le hg HB1.out.size
          obtain ⟨k1, n1, a1, m1, c1, b1, s1, d1, o1, f1, i0, i1, i2, i3, i4, i5, hpu⟩ := KidsAt.kid (c := sc) (n := 0) hkk HP6.out k hkl
          obtain ⟨k2, n2, a2, m2, c2, b2, s2, d2, o2, f2, u0, u1, u2, u3, u4, u5, hpv⟩ := KidsAt.kid (c := sc) (n := 0) hkk HP6.out q hql
          have HI := Lib.hid (show ∀ W, Below w1.heap.size w1 W → Cells6 W g (p + q * 6) k2 n2 a2 m2 c2 b2 s2 d2 o2 f2 from fun W hb => (Cells6.below ⟨u0, u1, u2, u3, u4, u5⟩ HB1.out hg).below hb hg1)
          obtain ⟨i0, i1, i2, i3, i4, i5⟩ := (Cells6.below ⟨i0, i1, i2, i3, i4, i5⟩ HB1.out hg).below HB.out hg1
          have h2j : 2 * jj < l.length := by omega
          have HC := Lib.hid (HFF.out _ jj wr.drew h2j (by
            rw [getD_el h2j, show l[2 * jj] = l[k] by congr 1; omega]
            exact hpu) HB.out.drew)
          have HPV := Lib.hid (show P (sixV k2 n2 a2 m2 c2 b2 s2 d2 o2 f2) (l.getD q .non) by rw [getD_el hql]; exact hpv)
          have HBC := Lib.hid HB.out.drew
          have HZ := Lib.hid (show ∀ W, Below w1.heap.size w1 W → W.cell? ⟨w.heap.size, 5, none⟩ = some (.slice (some ⟨g, p, none⟩) n sc) ∧ W.cell? ⟨w.heap.size + 1, 5, none⟩ = some (.slice ta m tc) from fun W hb => ⟨(box6 HR0.out hb).2.2.2.2.2, (box6 HR1.out hb).2.2.2.2.2⟩)
          have HKL := Lib.hid hkl; have HQL := Lib.hid hql; have HQ := Lib.hid hq; have HJ := Lib.hid (And.intro hj1 hj2); have HKN := Lib.hid hkn; have HC2 := Lib.hid (And.intro hc hc2); have HK2 := Lib.hid (And.intro hk hk2)
          have HLQ := Lib.hid hlt; have HLK := Lib.hid hltk
          clear hpu hpv hkk hg hg1 h0 u0 u1 u2 u3 u4 u5 h2j hjj hkl hql hkn hk2 y0 y1 y2 y3 y4 z0 z1 z2 z3 z4 hq
          go_wp2
          go_region_law (go_simp; go_at_call 24; (with_reducible refine HC.out.mono ?_); rintro e w5 ⟨r, rfl, hr, hb5⟩; have HB5 := Lib.hid (HBC.out.trans (hb5.mono HBC.out.size)); have HRF := Lib.hid hr; clear hb5 hr)
          all_goals (
            clear i0 i1 i2 i3 i4 i5 y5 z5 HC HB HBC
            rcases HRF.out with ⟨hr, hno⟩ | ⟨i, hi, hr, hyes, hbef⟩
            · have hr2 : r < 0 := by omega
              clear hr
              have hpf : pairIn f l l' jj = false := pairIn_none HEV'.out hno
              obtain rfl : R = false := Bool.eq_false_iff.2 (fun h => by
                have := HRR.out.1 h jj (by have := HJJ.out; have := HKL.out; omega)
                rw [hpf] at this; cases this)
              clear hno hpf
              go_simp
              go_wp2
              go_quiet (fail)
              go_wp2
              go_ret
              exact ⟨by first | rfl | simp, HB1.out.trans ((below_drewN HB5.out).mono HB1.out.size)⟩
            · have hpa := pairIn_at HEV'.out hi hyes hbef
              obtain ⟨z, hz⟩ : ∃ z, z = i * 2 := ⟨_, rfl⟩
              obtain ⟨t, ht⟩ : ∃ t, t = z + 1 := ⟨_, rfl⟩
              rw [← hz] at hr
              subst hr
              have htl : t < l'.length := by have := HEV'.out; omega
              have htm : (t : Int) < (m : Int) := by have := HMM.out; omega
              have hz0 : ¬ ((z : Int) < 0) := by omega
              have hz1 : decide ((z : Int) < 0) = false := by simp
              have hw1 : IntKind.i64.wrap ((z : Int) + 1) = (t : Int) := by simp only [IntKind.wrap_i64]; have := HMM.out; omega
              have hw2 : wrap64 ((z : Int) + 1) = (t : Int) := by unfold wrap64; have := HMM.out; omega
              rcases HT.out with ⟨h0, _⟩ | ⟨h0, g', p', c', e', hd, hd2, hg', hkk'⟩
              · rw [h0] at htl; simp at htl
              · injection e' with q1 _ q3
                subst q1; subst q3
                rw [← HMM.out] at hd h0
                have hg1' : g' < w1.heap.size := Nat.lt_of_lt_of_le hg' HB1.out.size
                obtain ⟨k3, n3, a3, m3, c3, b3, s3, d3, o3, f3, u0, u1, u2, u3, u4', u5, hqv⟩ := KidsAt.kid (c := tc) (n := 0) hkk' HQ6.out t htl
                have HJ3 := Lib.hid (show ∀ W, Below w1.heap.size w1 W → Cells6 W g' (p' + t * 6) k3 n3 a3 m3 c3 b3 s3 d3 o3 f3 from fun W hb => (Cells6.below ⟨u0, u1, u2, u3, u4', u5⟩ HB1.out hg').below hb hg1')
                have HBC := Lib.hid HB5.out.drew
                have HCE := Lib.hid (HEE.out _ _ (l.getD q .non) (l'.getD t .non) w5.drew (by rw [getD_el HQL.out]; exact List.getElem_mem _) (by rw [getD_el htl]; exact List.getElem_mem _) HPV.out (by rw [getD_el htl]; exact hqv) HBC.out)
                rw [show 2 * jj + 1 = q by have := HJJ.out; have := HQ.out; omega, ← hz, ← ht] at hpa
                obtain ⟨r2, hr2⟩ : ∃ r2, r2 = f (l.getD q .non) (l'.getD t .non) := ⟨_, rfl⟩
                rw [← hr2] at HCE hpa
                have HPA := Lib.hid hpa
                clear hr2 hpa u0 u1 u2 u3 u4' u5 hqv hkk' hg' hg1' hyes hbef hi hz ht htl
                go_simp
                cases r2
                · obtain rfl : R = false := Bool.eq_false_iff.2 (fun h => by
                    have := HRR.out.1 h jj (by have := HJJ.out; have := HKL.out; omega)
                    rw [HPA.out] at this; cases this)
                  go_wp2
                  go_region_held3 (fun W => Below w1.heap.size w1 W ∧ (W.cell? ⟨w.heap.size, 5, none⟩ = some (.slice (some ⟨g, p, none⟩) n sc) ∧ W.cell? ⟨w.heap.size + 1, 5, none⟩ = some (.slice (some ⟨g', p', none⟩) m tc)) ∧ (W.cell? ⟨g, p + q * 6, none⟩ = some (.int .i64 k2) ∧ W.cell? ⟨g, p + q * 6 + 1, none⟩ = some (.bool n2) ∧ W.cell? ⟨g, p + q * 6 + 2, none⟩ = some (.slice a2 m2 c2) ∧ W.cell? ⟨g, p + q * 6 + 3, none⟩ = some (.int .u64 b2) ∧ W.cell? ⟨g, p + q * 6 + 4, none⟩ = some (.string s2) ∧ W.cell? ⟨g, p + q * 6 + 5, none⟩ = some (.slice d2 o2 f2)) ∧ (W.cell? ⟨g', p' + t * 6, none⟩ = some (.int .i64 k3) ∧ W.cell? ⟨g', p' + t * 6 + 1, none⟩ = some (.bool n3) ∧ W.cell? ⟨g', p' + t * 6 + 2, none⟩ = some (.slice a3 m3 c3) ∧ W.cell? ⟨g', p' + t * 6 + 3, none⟩ = some (.int .u64 b3) ∧ W.cell? ⟨g', p' + t * 6 + 4, none⟩ = some (.string s3) ∧ W.cell? ⟨g', p' + t * 6 + 5, none⟩ = some (.slice d3 o3 f3))) (first | exact ⟨HBC.out, HZ.out _ HBC.out, HI.out _ HBC.out, HJ3.out _ HBC.out⟩) (first | (go_simp; go_at_call 8; refine HCE.out.mono ?_; rintro e w6 ⟨rfl, hb6⟩; have HBC := Lib.hid (HBC.out.trans (hb6.mono HBC.out.size)); clear hb6))
                  all_goals go_wp2
                  all_goals go_ret
                  all_goals exact ⟨by first | rfl | simp, HB1.out.trans (HBC.out.mono HB1.out.size)⟩
                · go_wp2
                  go_region_held3 (fun W => Below w1.heap.size w1 W ∧ (W.cell? ⟨w.heap.size, 5, none⟩ = some (.slice (some ⟨g, p, none⟩) n sc) ∧ W.cell? ⟨w.heap.size + 1, 5, none⟩ = some (.slice (some ⟨g', p', none⟩) m tc)) ∧ (W.cell? ⟨g, p + q * 6, none⟩ = some (.int .i64 k2) ∧ W.cell? ⟨g, p + q * 6 + 1, none⟩ = some (.bool n2) ∧ W.cell? ⟨g, p + q * 6 + 2, none⟩ = some (.slice a2 m2 c2) ∧ W.cell? ⟨g, p + q * 6 + 3, none⟩ = some (.int .u64 b2) ∧ W.cell? ⟨g, p + q * 6 + 4, none⟩ = some (.string s2) ∧ W.cell? ⟨g, p + q * 6 + 5, none⟩ = some (.slice d2 o2 f2)) ∧ (W.cell? ⟨g', p' + t * 6, none⟩ = some (.int .i64 k3) ∧ W.cell? ⟨g', p' + t * 6 + 1, none⟩ = some (.bool n3) ∧ W.cell? ⟨g', p' + t * 6 + 2, none⟩ = some (.slice a3 m3 c3) ∧ W.cell? ⟨g', p' + t * 6 + 3, none⟩ = some (.int .u64 b3) ∧ W.cell? ⟨g', p' + t * 6 + 4, none⟩ = some (.string s3) ∧ W.cell? ⟨g', p' + t * 6 + 5, none⟩ = some (.slice d3 o3 f3))) (first | exact ⟨HBC.out, HZ.out _ HBC.out, HI.out _ HBC.out, HJ3.out _ HBC.out⟩) (first | (go_simp; go_at_call 8; refine HCE.out.mono ?_; rintro e w6 ⟨rfl, hb6⟩; have HBC := Lib.hid (HBC.out.trans (hb6.mono HBC.out.size)); clear hb6))
                  all_goals go_wp2
                  all_goals go_round
                  all_goals first
                    | exact ⟨k + 2, by have := HKN.out; have := HQ.out; omega, by have := HK2.out.2; omega, by go_num, HBC.out, Lib.hid (fun j hj => by
                        by_cases e : j = jj
                        · subst e; exact HPA.out
                        · exact HA.out j (by have := HJJ.out; omega))⟩
                    | (simp [intOf]; have := HKN.out; have := HQ.out; omega))
      · have hge : ¬ ((q : Int) < (n : Int)) := by omega
        have hge2 : decide ((q : Int) < (n : Int)) = false := by simp; omega
        obtain rfl : R = true := HRR.out.2 (fun j hj => HA.out j (by have := HNN.out; omega))
        clear hkn hq
        go_wp2
        go_ret
        exact ⟨by first | rfl | simp, HB1.out.trans (HB.out.mono HB1.out.size)⟩
  · have hni : ((n : Int) != (m : Int)) = true := by simp; omega
    obtain rfl : R = false := by rw [HR.out, ← HNN.out, ← HMM.out]; simp [hn]
    clear hn
    go_enter Tryz.func8, Tryz.ntmps8
    go_wp2_with fail
    rw [← HW1.out]
    go_wp2_with fail
    refine (HN1.out _).mono ?_
    rintro e w2 ⟨rfl, hb2⟩
    have HB2 := Lib.hid hb2
    obtain ⟨y0, y1, y2, y3, y4, y5⟩ := box6 HR0.out hb2
    obtain ⟨z0, z1, z2, z3, z4, z5⟩ := box6 HR1.out hb2
    clear hb2
    go_wp2
    go_ret
    exact ⟨by first | rfl | simp, HB1.out.trans (HB2.out.mono HB1.out.size)⟩
end Go.Proofs.YtjkmppdmejgjiaaGreatDoor
