import Derived.Test.YtpcleebnfgnhdaaGreatDoorGz45
/- Walk: spec.cleanNode. -/
set_option linter.unusedVariables false
set_option linter.unusedSimpArgs false
namespace Go.Proofs.YtpcleebnfgnhdaaGreatDoor
open Go.RowKit
open Num

set_option maxRecDepth 100000 in
set_option maxHeartbeats 8000000 in
theorem cleanNode_head (k n a m c b s a2 m2 c2) (gs : Value) (root : Int) (N : List Nd) (S : Nat → Prop) (i nn : Nat) (w : World) (hx : RawNd w (sixV k n a m c b s a2 m2 c2)) (hg : GrB w S gs N)
    (hS : ∀ b, S b → b < w.heap.size) (hn : N.length ≤ 1000) (hi : i < nn) (hnn : nn ≤ 1000) (hNK : ∀ x ∈ N, x.ks.length ≤ 8 ∧ (∀ k ∈ x.ks, k ≤ 1000000) ∧ (x.T.kind < 6 → x.ks = [])) :
    Calls Tryz.prog 17 #[sixV k n a m c b s a2 m2 c2, .agg #[gs, .int .i64 root], .int .i64 i, .int .i64 nn] w (NodeIs N i nn w) := by
  obtain ⟨sa, sc, rfl⟩ := hg.shape
  obtain ⟨w1, hw1⟩ : ∃ w1, w1 = ((w.alloc (.cells #[.int .i64 k, .bool n, .slice a m c, .int .u64 b, .string s, .slice a2 m2 c2] 48)).alloc (.cells #[.slice sa N.length sc, .int .i64 root] 24)).alloc (.cells #[.int .i64 0, .bool false, .slice none 0 0, .int .u64 0, .string ⟨#[]⟩, .slice none 0 0] 48) := ⟨_, rfl⟩
  have hb1 : Below w.heap.size w w1 := by rw [hw1]; exact (((Below.refl _ _).alloc (Nat.le_refl _) _).alloc (by simp) _).alloc (by simp; omega) _
  have hsz1 : w1.heap.size = w.heap.size + 3 := by rw [hw1]; simp
  have r0 : w1.heap[w.heap.size]? = some (.cells #[.int .i64 k, .bool n, .slice a m c, .int .u64 b, .string s, .slice a2 m2 c2] 48 (0, 0)) := by rw [hw1]; exact heap3_0 _ _ _ _
  have HC := Lib.hid (show ∀ W, Below w1.heap.size w1 W → Calls Tryz.prog 23 #[sixV k n a m c b (s.extract 0 (min s.size 60)) none 0 0, .int .i64 1] W (CleanIs 1 W) from fun W hb => by
    refine Clean_any 1 1 _ W (by decide) ?_
    obtain ⟨k', n', a', m', c', b', s', a2', m2', c2', e, h1, h2, h3, h4, h5, h6, h7, hV, hk⟩ := (hx.below hb1).below hb
    injection e with e
    injection e with e
    injection e with q0 e; injection e with q1 e; injection e with q2 e; injection e with q3 e; injection e with q4 e; injection e with q5 e
    injection q0 with _ q0; injection q1 with q1; injection q2 with p1 p2 p3; injection q3 with _ q3; injection q4 with q4
    subst q0; subst q1; subst p1; subst p2; subst p3; subst q3; subst q4
    exact ⟨k, n, a, m, c, b, _, none, 0, 0, rfl, h1, h2, by simp; omega, h4, by omega, h6, by omega, hV, .inl rfl⟩)
  have HW1 := Lib.hid hw1; have HB1 := Lib.hid hb1; have HSZ1 := Lib.hid hsz1
  have HZ := Lib.hid (show ∀ W, Below w1.heap.size w1 W → W.cell? ⟨w.heap.size, 0, none⟩ = some (.int .i64 k) ∧ W.cell? ⟨w.heap.size, 1, none⟩ = some (.bool n) ∧ W.cell? ⟨w.heap.size, 2, none⟩ = some (.slice a m c) ∧ W.cell? ⟨w.heap.size, 3, none⟩ = some (.int .u64 b) ∧ W.cell? ⟨w.heap.size, 4, none⟩ = some (.string s) from fun W hb => by
    have h := (hb.block w.heap.size (by omega)).trans r0
    exact ⟨(cell_of_row _ _ 0 _ _ (0, 0) h).trans rfl, (cell_of_row _ _ 1 _ _ (0, 0) h).trans rfl, (cell_of_row _ _ 2 _ _ (0, 0) h).trans rfl, (cell_of_row _ _ 3 _ _ (0, 0) h).trans rfl, (cell_of_row _ _ 4 _ _ (0, 0) h).trans rfl⟩)
  have HX5 := Lib.hid (show ∀ W, Below w1.heap.size w1 W → W.cell? ⟨w.heap.size, 5, none⟩ = some (.slice a2 m2 c2) from fun W hb => (cell_of_row _ _ 5 _ _ (0, 0) ((hb.block w.heap.size (by omega)).trans r0)).trans rfl)
  obtain ⟨x0, x1, x2, x3, x4⟩ := HZ.out w1 (Below.refl _ _)
  have hmin : min (s.size : Int) 60 = ((min s.size 60 : Nat) : Int) := by omega
  have hml : min s.size 60 ≤ s.size := by omega
  obtain ⟨z, hz⟩ : ∃ z, z = min s.size 60 := ⟨_, rfl⟩
  rw [← hz] at hmin hml HC
  have HBC := Lib.hid ((Below.refl w1.heap.size w1).drew)
  have HX := Lib.hid hx; have HG := Lib.hid hg; have HS := Lib.hid hS; have HNK := Lib.hid hNK
  clear hx hg hS hNK hw1 hb1 hsz1 r0 hz
  go_enter Tryz.func17, Tryz.ntmps17
  go_wp2_with fail
  rw [← HW1.out]
  go_cut [9] from 16 to 32 (fun s9 wx => HeadAt w1 wx s9)
  case first =>
    go_region_held3 (fun W => Below w1.heap.size w1 W ∧ W.cell? ⟨w.heap.size, 0, none⟩ = some (.int .i64 k) ∧ W.cell? ⟨w.heap.size, 1, none⟩ = some (.bool n) ∧ W.cell? ⟨w.heap.size, 2, none⟩ = some (.slice a m c) ∧ W.cell? ⟨w.heap.size, 3, none⟩ = some (.int .u64 b) ∧ W.cell? ⟨w.heap.size, 4, none⟩ = some (.string s)) (first | (refine (fun hb => ⟨hb, HZ.out _ hb⟩) ?_; repeat (first | with_reducible exact HBC.out | with_reducible exact Below.refl _ _ | with_reducible refine Below.drew ?_ | with_reducible refine below_alx ?_ _ | with_reducible refine below_chain6 ?_ (by first | exact Nat.le_refl _ | exact HBC.out.size) _ _ _ _ _ _))) (first | (go_simp; go_at_call 23; (with_reducible refine (HC.out _ (by repeat (first | with_reducible exact HBC.out | with_reducible exact Below.refl _ _ | with_reducible refine Below.drew ?_ | with_reducible refine below_alx ?_ _))).mono ?_); rintro e w5 ⟨x, tA, rfl, hx, hT, hb5⟩; obtain ⟨p0, p1, p2, p3, p4, p5, p6, p7, p8, p9, hxx⟩ := hx.at_.shape; subst hxx; (first | (have A0 : Zx w5 w1.heap.size := zx_one (w := w1) (W := w5) hb5; have zA0c := A0.fr; obtain ⟨zA00, zA01, zA02, zA03, zA04, zA05⟩ := A0.cells; have HA0 := Lib.hid A0; clear A0) | skip); have hbc := below_step (w := w1) (by repeat (first | with_reducible exact Below.refl _ _ | with_reducible refine Below.drew ?_ | with_reducible refine below_alx ?_ _)) hb5 (Below.refl _ _); have HBC := Lib.hid hbc; have HXA := Lib.hid hx; have HTA := Lib.hid hT; clear hb5 hx hT hbc))
    all_goals (
      go_wp2_with fail
      go_meet
      first
        | (obtain ⟨w6, hw6⟩ : ∃ w6, w6 = w5.alloc (sixO p0 p1 p2 p3 p4 p5 p6 p7 p8 p9) := ⟨_, rfl⟩
           rw [← hw6]
           rw [hw6]
           exact ⟨w5.heap.size, p0, p1, p2, p3, p4, p5, p6, p7, p8, p9, tA, rfl, heap_alloc_new _ _, HBC.out.size, HTA.out, (HXA.out.there).turn (fun b hb => ⟨hb.1, fun e => by have := hb.2; omega⟩) (below_al0 _ _).size (fun b _ hl => (below_al0 w5 _).block b hl), below_alx HBC.out _⟩)
        | exact ⟨w1.heap.size, p0, p1, p2, p3, p4, p5, p6, p7, p8, p9, tA, rfl, chain6_zx _ _ _ _ _ _ HA0.out, Nat.le_refl _, HTA.out, (HXA.out).turn (fun b hb => by rw [size_alloc_drew'] at hb; exact ⟨by omega, by omega⟩) (put6_chg w5 w1.heap.size _ _ _ _ _ _).size (fun b hb hl => (put6_chg w5 w1.heap.size _ _ _ _ _ _).block b hl (by rw [size_alloc_drew'] at hb; omega)), below_chain6 HBC.out (Nat.le_refl _) _ _ _ _ _ _⟩)
  case rest =>
    obtain ⟨bv, kd, vn, va, vm, vc, vb, vs, vd, vo, vf, t, rfl, hrv, hbv, hct, hvt, hbw⟩ := hcut
    obtain ⟨v0, v1, v2, v3, v4, v5⟩ := box6 hrv (Below.refl _ _)
    have HRV := Lib.hid hrv; have HCT := Lib.hid hct; have HVT := Lib.hid hvt; have HBW := Lib.hid hbw; have HBV := Lib.hid hbv
    clear hrv hct hvt hbw hbv x0 x1 x2 x3 x4
    go_wp2
    obtain ⟨w2, hw2⟩ : ∃ w2, w2 = wc.alloc (.cells #[.int .i64 kd, .bool vn, .slice va vm vc, .int .u64 vb, .string vs, .slice none 0 0] 48) := ⟨_, rfl⟩
    have hb2 : Below wc.heap.size wc w2 := by rw [hw2]; exact below_al0 _ _
    have hs2 : w2.heap.size = wc.heap.size + 1 := by rw [hw2]; simp
    have hO : w2.heap[wc.heap.size]? = some (.cells #[.int .i64 kd, .bool vn, .slice va vm vc, .int .u64 vb, .string vs, .slice none 0 0] 48 (0, 0)) := by rw [hw2]; exact heap_alloc_new _ _
    have HU := Lib.hid (show CndAt N S kd vn va vm vc vb vs i nn m2 wc.heap.size w2 0 (.slice none 0 0) w2 from ⟨[], [], .slice none 0 0, [], by omega, by omega, ⟨hO, World.ownsRow_nil w2 _ _ 1, none, 0, rfl⟩, OwnE.nil _ _ _ _, fun _ => ⟨rfl, rfl⟩, rfl, fun b h => (by simp [Value.ownBlock] at h), Chg.refl _ _, KInv.begin N kd i nn⟩)
    rw [← hw2]
    have HW2 := Lib.hid hw2; have HB2 := Lib.hid hb2; have HS2 := Lib.hid hs2
    clear hw2 hb2 hs2 hO v0 v1 v2 v3 v4 v5
    go_loopw [11, 12] (fun s11 s12 wr => ∃ j : Nat, s12 = .int .i64 j ∧ CndAt N S kd vn va vm vc vb vs i nn m2 wc.heap.size w2 j s11 wr) (fun _ s _ => 40 - (intOf s).toNat)
    case atStart => exact ⟨0, rfl, HU.out⟩
    case round =>
      obtain ⟨j, rfl, hst⟩ := hrel
      clear HU
      obtain ⟨l, ts, ks, es, hj1, hj2, hno, hown, hsv, hes, hdis, hch, hki⟩ := hst
      have hno' := hno
      obtain ⟨ho, _, ka, kc, hks⟩ := hno'
      subst hks
      have o5 : wr.cell? ⟨wc.heap.size, 5, none⟩ = some (.slice ka l.length kc) := (cell_of_row _ _ 5 _ _ (0, 0) ho).trans rfl
      have x5 : wr.cell? ⟨w.heap.size, 5, none⟩ = some (.slice a2 m2 c2) := (hch.cell (p := ⟨w.heap.size, 5, none⟩) (by have := HS2.out; have := HBW.out.size; have := HSZ1.out; dsimp only; omega) (by have := HBW.out.size; have := HSZ1.out; dsimp only; omega)).trans (HX5.out w2 (HBW.out.trans (HB2.out.mono HBW.out.size)))
      have z0 : wr.cell? ⟨bv, 0, none⟩ = some (.int .i64 kd) := (hch.cell (p := ⟨bv, 0, none⟩) (by have := (Array.getElem?_eq_some_iff.1 HRV.out).1; have := HS2.out; dsimp only; omega) (by have := (Array.getElem?_eq_some_iff.1 HRV.out).1; dsimp only; omega)).trans ((HB2.out.cell (p := ⟨bv, 0, none⟩) (Array.getElem?_eq_some_iff.1 HRV.out).1).trans ((cell_of_row _ _ 0 _ _ (0, 0) HRV.out).trans rfl))
      have HST := Lib.hid (show CndAt N S kd vn va vm vc vb vs i nn m2 wc.heap.size w2 j u11 wr from ⟨l, ts, _, es, hj1, hj2, hno, hown, hsv, hes, hdis, hch, hki⟩)
      have HNO := Lib.hid hno; have HOWN := Lib.hid hown; have HSV := Lib.hid hsv; have HES := Lib.hid hes; have HDIS := Lib.hid hdis; have HCH := Lib.hid hch; have HKI := Lib.hid hki
      clear hno hown hsv hes hdis hch hki ho
      by_cases he : j < m2 ∧ j < 32 ∧ l.length < 8
      · obtain ⟨he1, he2, he3⟩ := he
        have l1 : (j : Int) < (m2 : Int) := by omega
        have l2 : (j : Int) < 32 := by omega
        have l3 : (l.length : Int) < 8 := by omega
        by_cases hk5 : kd < 6
        · have e6 : (kd == 6) = false := by simp; omega
          have e7 : (kd == 7) = false := by simp; omega
          have e8 : (kd == 8) = false := by simp; omega
          have e9 : (kd == 9) = false := by simp; omega
          go_wp2
          go_round
          case rel => exact ⟨j + 1, by go_num, HST.out.next (by omega) (by omega)⟩
          case measure => simp [intOf]; omega
        · by_cases hk6 : kd = 6
          · have e6 : (kd == 6) = true := by simp [hk6]
            have HK6 := Lib.hid hk6
            obtain ⟨hmc, hkids⟩ := HX.out.kids
            rcases hkids with h0 | ⟨g2, p2, rfl, hg2, hkk⟩
            · omega
            · obtain ⟨zz, hzz⟩ := hkk j he1
              have hw : Below w.heap.size w wr := Chg.below ((HB1.out.trans (HBW.out.mono HB1.out.size)).trans (HB2.out.mono (Nat.le_trans HB1.out.size HBW.out.size))) (Nat.le_trans (Nat.le_trans HB1.out.size HBW.out.size) HB2.out.size) HCH.out (Nat.le_trans HB1.out.size HBW.out.size)
              have k5 : wr.cell? ⟨g2, p2 + j, none⟩ = some (.int .i64 zz) := (hw.cell (p := ⟨g2, p2 + j, none⟩) hg2).trans hzz
              have HNB := Lib.hid (fun W (hb : Below wr.heap.size wr W) => And.intro (HNO.out.below hb) (Nat.le_trans HCH.out.size hb.size))
              have hOB : wc.heap.size < w2.heap.size := by have := HS2.out; omega
              have hl9 : l.length ≤ 900 := by omega
              have hn0 : 0 < nn := by omega
              have hn1 : nn ≤ 1000000 := by omega
              have o6 := fun X => ((below_al0 wr X).cell (p := ⟨wc.heap.size, 5, none⟩) (Array.getElem?_eq_some_iff.1 HNO.out.o).1).trans o5
              clear hkk hzz hk6 hw hmc
              go_wp2
              go_region_law (first | (go_simp; go_at_call 16; refine (turn_any zz nn _ hn0 hn1).mono ?_; rintro e w5 ⟨kk, rfl, hkk, rfl⟩; have HKK := Lib.hid hkk; clear hkk) | (refine step_num (k := kk) rfl (.tmp 66) (.tmp 74) rfl rfl rfl (HNB.out _ (by repeat (first | with_reducible exact Below.refl _ _ | with_reducible refine Below.drew ?_ | with_reducible refine below_alx ?_ _))).1 hOB (HNB.out _ (by repeat (first | with_reducible exact Below.refl _ _ | with_reducible refine Below.drew ?_ | with_reducible refine below_alx ?_ _))).2 hl9 ((cell_of_row _ _ 0 _ _ (0, 0) (heap_alloc_new wr.drew _)).trans rfl) ?_; intro a' c' w7 q7 q8 HN7))
              all_goals (
                go_wp2
                go_round
                case rel =>
                  have hsv := HSV.out (by have := HK6.out; omega)
                  exact ⟨j + 1, by go_num, l ++ [kk], ts, _, es, by omega, by omega, HN7.out.o, (by rw [hsv.1, hsv.2]; exact OwnE.nil _ _ _ _), fun _ => hsv, HES.out, (by rw [hsv.1]; intro b h; simp [Value.ownBlock] at h), HN7.out.chg HNO.out (by repeat (first | with_reducible exact Below.refl _ _ | with_reducible refine Below.drew ?_ | with_reducible refine below_alx ?_ _)) HCH.out rfl, HKI.out.list HK6.out HKK.out he3⟩
                case measure => simp [intOf]; omega)
          · have e6 : (kd == 6) = false := by simp [hk6]
            by_cases hk7 : kd = 7
            · have e7 : (kd == 7) = true := by simp [hk7]
              have HK7 := Lib.hid hk7
              have HII := Lib.hid (show i ≤ nn by omega)
              clear hk5 hk6
              by_cases hi0 : 0 < i
              · skip
                obtain ⟨hmc, hkids⟩ := HX.out.kids
                rcases hkids with h0 | ⟨g2, p2, rfl, hg2, hkk⟩
                · omega
                · obtain ⟨zz, hzz⟩ := hkk j he1
                  have hw : Below w.heap.size w wr := Chg.below ((HB1.out.trans (HBW.out.mono HB1.out.size)).trans (HB2.out.mono (Nat.le_trans HB1.out.size HBW.out.size))) (Nat.le_trans (Nat.le_trans HB1.out.size HBW.out.size) HB2.out.size) HCH.out (Nat.le_trans HB1.out.size HBW.out.size)
                  have k5 : wr.cell? ⟨g2, p2 + j, none⟩ = some (.int .i64 zz) := (hw.cell (p := ⟨g2, p2 + j, none⟩) hg2).trans hzz
                  have HNB := Lib.hid (fun W (hb : Below wr.heap.size wr W) => And.intro (HNO.out.below hb) (Nat.le_trans HCH.out.size hb.size))
                  have hOB : wc.heap.size < w2.heap.size := by have := HS2.out; omega
                  have hl9 : l.length ≤ 900 := by omega
                  have li : (0 : Int) < (i : Int) := by omega
                  have hn1 : i ≤ 1000000 := by omega
                  have o6 := fun X => ((below_al0 wr X).cell (p := ⟨wc.heap.size, 5, none⟩) (Array.getElem?_eq_some_iff.1 HNO.out.o).1).trans o5
                  clear hkk hzz hk7 hw hmc
                  go_wp2
                  go_region_law (first | (go_simp; go_at_call 16; refine (turn_any zz i _ hi0 hn1).mono ?_; rintro e w5 ⟨kk, rfl, hkk, rfl⟩; have HKK := Lib.hid hkk; clear hkk) | (refine step_num (k := kk) rfl (.tmp 82) (.tmp 90) rfl rfl rfl (HNB.out _ (by repeat (first | with_reducible exact Below.refl _ _ | with_reducible refine Below.drew ?_ | with_reducible refine below_alx ?_ _))).1 hOB (HNB.out _ (by repeat (first | with_reducible exact Below.refl _ _ | with_reducible refine Below.drew ?_ | with_reducible refine below_alx ?_ _))).2 hl9 ((cell_of_row _ _ 0 _ _ (0, 0) (heap_alloc_new wr.drew _)).trans rfl) ?_; intro a' c' w7 q7 q8 HN7))
                  all_goals (
                    go_wp2
                    go_round
                    case rel =>
                      have hsv := HSV.out (by have := HK7.out; omega)
                      exact ⟨j + 1, by go_num, l ++ [kk], ts, _, es, by omega, by omega, HN7.out.o, (by rw [hsv.1, hsv.2]; exact OwnE.nil _ _ _ _), fun _ => hsv, HES.out, (by rw [hsv.1]; intro b h; simp [Value.ownBlock] at h), HN7.out.chg HNO.out (by repeat (first | with_reducible exact Below.refl _ _ | with_reducible refine Below.drew ?_ | with_reducible refine below_alx ?_ _)) HCH.out rfl, HKI.out.tuple HK7.out HKK.out HII.out he3⟩
                    case measure => simp [intOf]; omega)
              · have li : ¬ ((0 : Int) < (i : Int)) := by omega
                clear hk7 hi0
                go_wp2
                go_round
                case rel => exact ⟨j + 1, by go_num, HST.out.next (by omega) (by omega)⟩
                case measure => simp [intOf]; omega
            · have e7 : (kd == 7) = false := by simp [hk7]
              have hkd9 : kd = 8 ∨ kd = 9 := by
                have h1 := (val_bare HVT.out).1
                have h2 := kind_le t
                omega
              exact cnd_keys hn hi hnn HW1 HB1 HSZ1 HX HG HS HNK HRV HBW HBV HB2 HS2 o5 x5 z0 HNO HOWN HES HDIS HCH HKI he1 he2 he3 l1 l2 l3 e6 e7 hkd9
      · have g1 := HSZ1.out
        have g2 := HBW.out.size
        have g3 := HS2.out
        have HRES := Lib.hid (show wr.heap[w.heap.size + 1 + 1]? = some (.cells #[.int .i64 0, .bool false, .slice none 0 0, .int .u64 0, .string ⟨#[]⟩, .slice none 0 0] 48 (0, 0)) from (HCH.out.block _ (by omega) (by omega)).trans ((HB2.out.block _ (by omega)).trans ((HBW.out.block _ (by omega)).trans (by rw [HW1.out]; exact heap3_2 _ _ _ _))))
        obtain ⟨u0, u1, u2, u3, u4', u5⟩ := box6n HNO.out.o (Below.refl _ _)
        obtain ⟨z0', z1, z2, z3, z4, z5⟩ := box6n HRES.out (Below.refl _ _)
        have fz : ∀ i, wr.frozen? ⟨w.heap.size + 1 + 1, i, none⟩ = false := six_frozen HRES.out
        have HEND := Lib.hid (show NodeIs N i nn w (.returned (.agg #[.int .i64 kd, .bool vn, .slice va vm vc, .int .u64 vb, .string vs, .slice ka l.length kc])) (put6 wr (w.heap.size + 1 + 1) (.int .i64 kd) (.bool vn) (.slice va vm vc) (.int .u64 vb) (.string vs) (.slice ka l.length kc)) from by
          obtain ⟨hkd, hvb⟩ := val_bare HVT.out
          have hch := put6_chg wr (w.heap.size + 1 + 1) (.int .i64 kd) (.bool vn) (.slice va vm vc) (.int .u64 vb) (.string vs) (.slice ka l.length kc)
          have hnm := HNO.out.numsB (fun b => w2.heap.size ≤ b) (fun b h => h)
          have hki := HKI.out
          obtain ⟨wF, hwF⟩ : ∃ wF, wF = put6 wr (w.heap.size + 1 + 1) (.int .i64 kd) (.bool vn) (.slice va vm vc) (.int .u64 vb) (.string vs) (.slice ka l.length kc) := ⟨_, rfl⟩
          rw [← hwF] at hch ⊢
          clear hwF
          rw [hkd] at hki ⊢
          have hs1 := HCH.out.size
          have hs2 := hch.size
          refine ⟨⟨t, l⟩, _, rfl, ⟨vn, va, vm, vc, vb, vs, .slice ka l.length kc, rfl, ?_, ?_⟩, hki.ok, ?_⟩
          · refine (hvb.there).turn (fun b hb => by have := hb.1.1; omega) (by omega) (fun b hb hl => ?_)
            have h1 := hb.1.1
            exact (hch.block b (by omega) (by omega)).trans ((HCH.out.block b (by omega) (by omega)).trans (HB2.out.block b (by omega)))
          · exact hnm.turn (fun b hb => by omega) hs2 (fun b hb hl => hch.block b hl (by omega))
          · have b1 : Below w.heap.size w w2 := (HB1.out.trans (HBW.out.mono HB1.out.size)).trans (HB2.out.mono (by omega))
            exact Chg.below (Chg.below b1 b1.size HCH.out (by omega)) (by omega) hch (by omega))
        clear g1 g2 g3
        have hput := put6_heap (x0 := .int .i64 kd) (x1 := .bool vn) (x2 := .slice va vm vc) (x3 := .int .u64 vb) (x4 := .string vs) (x5 := .slice ka l.length kc) HRES.out
        by_cases h1 : j < m2
        · have l1 : (j : Int) < (m2 : Int) := by omega
          by_cases h2 : j < 32
          · have l2 : (j : Int) < 32 := by omega
            have l3 : ¬ ((l.length : Int) < 8) := by omega
            have l4 : decide ((l.length : Int) < 8) = false := by simp; omega
            clear he h1 h2
            go_wp2
            unfold put6 at hput
            obtain ⟨E0, E1, E2, E3, E4, E5⟩ := box6n hput (Below.refl _ _)
            have hend := HEND.out
            unfold put6 at hend
            exact bodyPost_ret (v := .agg #[.int .i64 kd, .bool vn, .slice va vm vc, .int .u64 vb, .string vs, .slice ka l.length kc]) (by simp [results, Tryz.results17, go_sem, E0, E1, E2, E3, E4, E5]) rfl hend
          · have l2 : ¬ ((j : Int) < 32) := by omega
            have l4 : decide ((j : Int) < 32) = false := by simp; omega
            clear he h1 h2
            go_wp2
            unfold put6 at hput
            obtain ⟨E0, E1, E2, E3, E4, E5⟩ := box6n hput (Below.refl _ _)
            have hend := HEND.out
            unfold put6 at hend
            exact bodyPost_ret (v := .agg #[.int .i64 kd, .bool vn, .slice va vm vc, .int .u64 vb, .string vs, .slice ka l.length kc]) (by simp [results, Tryz.results17, go_sem, E0, E1, E2, E3, E4, E5]) rfl hend
        · have l1 : ¬ ((j : Int) < (m2 : Int)) := by omega
          have l4 : decide ((j : Int) < (m2 : Int)) = false := by simp; omega
          clear he h1
          go_wp2
          unfold put6 at hput
          obtain ⟨E0, E1, E2, E3, E4, E5⟩ := box6n hput (Below.refl _ _)
          have hend := HEND.out
          unfold put6 at hend
          exact bodyPost_ret (v := .agg #[.int .i64 kd, .bool vn, .slice va vm vc, .int .u64 vb, .string vs, .slice ka l.length kc]) (by simp [results, Tryz.results17, go_sem, E0, E1, E2, E3, E4, E5]) rfl hend
end Go.Proofs.YtpcleebnfgnhdaaGreatDoor
