import Derived.Test.YtjkmppdmejgjiaaGreatDoorEz37
/- Walk: laws.FnEqualDepth. -/
set_option linter.unusedVariables false
set_option linter.unusedSimpArgs false
namespace Go.Proofs.YtjkmppdmejgjiaaGreatDoor
open Go.RowKit
open Num

theorem deep_any (op : Int) : ∃ k : Nat, 10 ≤ k ∧ k ≤ 60 ∧ wrap64 (10 + (wrap64 (op.tmod 50 + 50)).tmod 50) = (k : Int) := by
  have h1 : op.tmod 50 < 50 := Int.tmod_lt_of_pos op (by decide)
  have h2 : -50 < op.tmod 50 := Int.lt_tmod_of_pos op (by decide)
  obtain ⟨x, hx⟩ : ∃ x, x = op.tmod 50 := ⟨_, rfl⟩
  rw [← hx] at h1 h2 ⊢
  rw [IntWalk.wrap64_in (x + 50) (by omega), Int.tmod_eq_emod_of_nonneg (by omega), IntWalk.wrap64_in _ (by omega)]
  exact ⟨(10 + (x + 50) % 50).toNat, by omega, by omega, by omega⟩

set_option maxRecDepth 100000 in
set_option maxHeartbeats 32000000 in
theorem FnEqualDepth_any (f1 f2 : Nat) (u v : Value) (dp : Int) (w : World) (hkt : KT w) (hcl : CL w) (h1 : RawAt w (f1 + 1) u) (h2 : RawAt w (f2 + 1) v) :
    Calls Tryz.prog 3 #[u, v, .int .i64 dp] w fun e w' => e = .returned (.bool true) ∧ Below w.heap.size w w' := by
  have hr1 := h1
  have hr2 := h2
  obtain ⟨k, n, a, m, c, b, s, a2, m2, c2, e, _⟩ := h1
  obtain ⟨k', n', a', m', c', b', s', a2', m2', c2', e', _⟩ := h2
  subst e; subst e'
  obtain ⟨w1, hw1⟩ : ∃ w1, w1 = (w.alloc (sixO k n a m c b s a2 m2 c2)).alloc (sixO k' n' a' m' c' b' s' a2' m2' c2') := ⟨_, rfl⟩
  obtain ⟨r0, r1, hb1, _⟩ := two_new w (sixO k n a m c b s a2 m2 c2) (sixO k' n' a' m' c' b' s' a2' m2' c2')
  rw [← hw1] at r0 r1 hb1
  have HF1 := Lib.hid (fun W => zzFits7_any k n a m c b s a2 m2 c2 W)
  have HF2 := Lib.hid (fun W => zzFits7_any k' n' a' m' c' b' s' a2' m2' c2' W)
  have HCA := Lib.hid (fun W (hb : Below w1.heap.size w1 W) => show Calls Tryz.prog 6 #[sixV k n a m c b s a2 m2 c2, .int .i64 3] W (CleanIs 3 W) from Clean_any 3 (f1 + 1) _ W (by decide) ((hr1.below hb1).below hb))
  have HCB := Lib.hid (fun W (hb : Below w1.heap.size w1 W) => show Calls Tryz.prog 6 #[sixV k' n' a' m' c' b' s' a2' m2' c2', .int .i64 3] W (CleanIs 3 W) from Clean_any 3 (f2 + 1) _ W (by decide) ((hr2.below hb1).below hb))
  have HKT := Lib.hid (fun W (hb : Below w1.heap.size w1 W) => (hkt.below hb1).below hb)
  have HCL := Lib.hid (fun W (hb : Below w1.heap.size w1 W) => (hcl.below hb1).below hb)
  obtain ⟨D, hD1, hD2, hD⟩ := deep_any dp
  have HD := Lib.hid hD
  have HZ := Lib.hid (show ∀ W, Below w1.heap.size w1 W → _ from fun W hb => And.intro (box6 r0 hb) (box6 r1 hb))
  have HW1 := Lib.hid hw1; have HB1 := Lib.hid hb1
  clear hr1 hr2 hkt hcl hw1 r0 r1 hb1 hD
  obtain ⟨⟨x0, x1, x2, x3, x4, x5⟩, -⟩ := HZ.out w1 (Below.refl _ _)
  go_enter Tryz.func3, Tryz.ntmps3
  go_wp2_with fail
  rw [← HW1.out]
  go_wp2_with fail
  refine (HF1.out _).mono ?_
  rintro e w2 ⟨r, rfl, hb2⟩
  have HB2 := Lib.hid hb2
  obtain ⟨-, ⟨x0, x1, x2, x3, x4, x5⟩⟩ := HZ.out w2 hb2
  clear hb2
  cases r with
  | false =>
    go_wp2
    go_ret
    exact ⟨rfl, HB1.out.trans (HB2.out.mono HB1.out.size)⟩
  | true =>
    go_wp2_with fail
    refine (HF2.out _).mono ?_
    rintro e w3 ⟨r, rfl, hb3⟩
    have hb3' := HB2.out.trans (hb3.mono HB2.out.size)
    have HB3 := Lib.hid hb3'
    obtain ⟨⟨x0, x1, x2, x3, x4, x5⟩, ⟨y0, y1, y2, y3, y4, y5⟩⟩ := HZ.out w3 hb3'
    clear hb3 hb3'
    cases r with
    | false =>
      go_wp2
      go_ret
      exact ⟨rfl, HB1.out.trans (HB3.out.mono HB1.out.size)⟩
    | true =>
      have HBC := Lib.hid HB3.out.drew
      have HSZ := Lib.hid HB3.out.size
      clear HF1 HF2 HB2
      go_wp2
      go_cut [7, 8] from 20 to 23 (fun s7 s8 wx => TwoAt w1 wx s7 s8)
      case first =>
        go_region_held3 (fun W => Below w1.heap.size w1 W ∧ (W.cell? ⟨w.heap.size, 0, none⟩ = some (.int .i64 k) ∧ W.cell? ⟨w.heap.size, 1, none⟩ = some (.bool n) ∧ W.cell? ⟨w.heap.size, 2, none⟩ = some (.slice a m c) ∧ W.cell? ⟨w.heap.size, 3, none⟩ = some (.int .u64 b) ∧ W.cell? ⟨w.heap.size, 4, none⟩ = some (.string s) ∧ W.cell? ⟨w.heap.size, 5, none⟩ = some (.slice a2 m2 c2)) ∧ (W.cell? ⟨w.heap.size + 1, 0, none⟩ = some (.int .i64 k') ∧ W.cell? ⟨w.heap.size + 1, 1, none⟩ = some (.bool n') ∧ W.cell? ⟨w.heap.size + 1, 2, none⟩ = some (.slice a' m' c') ∧ W.cell? ⟨w.heap.size + 1, 3, none⟩ = some (.int .u64 b') ∧ W.cell? ⟨w.heap.size + 1, 4, none⟩ = some (.string s') ∧ W.cell? ⟨w.heap.size + 1, 5, none⟩ = some (.slice a2' m2' c2'))) (first | (refine (fun hb => ⟨hb, HZ.out _ hb⟩) ?_; repeat (first | with_reducible exact HBC.out | with_reducible exact HB3.out | with_reducible refine Below.drew ?_ | with_reducible refine below_alx ?_ _ | with_reducible refine below_chain6 ?_ (by first | exact HSZ.out | exact Nat.le_succ_of_le HSZ.out | exact HBA.out.size | exact Nat.le_succ_of_le HBA.out.size | exact HBC.out.size | exact Nat.le_succ_of_le HBC.out.size) _ _ _ _ _ _))) (first | (go_simp; go_at_call 6; (with_reducible refine (HCA.out _ (by repeat (first | with_reducible exact HBC.out | with_reducible exact HB3.out | with_reducible exact Below.refl _ _ | with_reducible refine Below.drew ?_ | with_reducible refine below_alx ?_ _))).mono ?_); rintro e wz ⟨x, tA, rfl, hx, hT, hbz⟩; obtain ⟨p0, p1, p2, p3, p4, p5, p6, p7, p8, p9, hxx⟩ := hx.at_.shape; subst hxx; (first | (have A0 : Zx wz w3.heap.size := zx_one (w := w3) (W := wz) hbz) | (have AA : Zx wz w3.heap.size ∧ Zx wz (w3.heap.size + 1) := zx_two (w := w3) (W := wz) hbz; obtain ⟨A0, A1⟩ := AA) | skip); (try (have zAe := Nat.ne_of_lt A0.lt; have zAf := Ne.symm zAe)); (try (have HAL := Lib.hid A0.lt)); (try (have HAL1 := Lib.hid A1.lt)); have hbc := below_step (w := w1) (by repeat (first | with_reducible exact HBC.out | with_reducible exact HB3.out | with_reducible exact Below.refl _ _ | with_reducible refine Below.drew ?_ | with_reducible refine below_alx ?_ _)) hbz (Below.refl _ _); have HBC := Lib.hid hbc; have HXA := Lib.hid hx; have HTA := Lib.hid hT; obtain ⟨wA, hwA⟩ : ∃ wA, wA = wz := ⟨_, rfl⟩; subst hwA; have HBA := Lib.hid hbc; clear hbz hx hT hbc) | (go_simp; go_at_call 6; (with_reducible refine (HCB.out _ (by repeat (first | with_reducible exact HBC.out | with_reducible exact HB3.out | with_reducible exact Below.refl _ _ | with_reducible refine Below.drew ?_ | with_reducible refine below_alx ?_ _))).mono ?_); rintro e wz ⟨x, tB, rfl, hx, hT, hbz⟩; obtain ⟨q0, q1, q2, q3, q4, q5, q6, q7, q8, q9, hxx⟩ := hx.at_.shape; subst hxx; have hst := below_step (w := wA) (by repeat (first | with_reducible exact Below.refl _ _ | with_reducible refine below_alx ?_ _)) hbz (Below.refl _ _); (try (have C0 := A0.below hst; clear A0)); (try (have C1 := A1.below hst; clear A1)); (first | (have B0 : Zx wz wA.heap.size := zx_one' (w := wA) (W := wz) hbz) | (have BB : Zx wz wA.heap.size ∧ Zx wz (wA.heap.size + 1) := zx_two' (w := wA) (W := wz) hbz; obtain ⟨B0, B1⟩ := BB) | skip); have hbc := below_step (w := w1) (by repeat (first | with_reducible exact HBC.out | with_reducible exact HB3.out | with_reducible exact Below.refl _ _ | with_reducible refine Below.drew ?_ | with_reducible refine below_alx ?_ _)) hbz (Below.refl _ _); have HST := Lib.hid hst; have HBC := Lib.hid hbc; have HXB := Lib.hid hx; have HTB := Lib.hid hT; clear hbz hx hT hbc hst; (try (have zC0c := C0.fr; have zC0d := fun O => (C0.al O).fr; have zC0e := Nat.ne_of_lt C0.lt; have zC0f := Ne.symm zC0e; have zC0b := fun O => (C0.al O).cells; obtain ⟨zC00, zC01, zC02, zC03, zC04, zC05⟩ := C0.cells; have zC0b0 := fun O => (zC0b O).1; have zC0b1 := fun O => (zC0b O).2.1; have zC0b2 := fun O => (zC0b O).2.2.1; have zC0b3 := fun O => (zC0b O).2.2.2.1; have zC0b4 := fun O => (zC0b O).2.2.2.2.1; have zC0b5 := fun O => (zC0b O).2.2.2.2.2; clear zC0b; have HC0 := Lib.hid C0; clear C0)); (try (have zC1c := C1.fr; have zC1d := fun O => (C1.al O).fr; have zC1e := Nat.ne_of_lt C1.lt; have zC1f := Ne.symm zC1e; have zC1b := fun O => (C1.al O).cells; obtain ⟨zC10, zC11, zC12, zC13, zC14, zC15⟩ := C1.cells; have zC1b0 := fun O => (zC1b O).1; have zC1b1 := fun O => (zC1b O).2.1; have zC1b2 := fun O => (zC1b O).2.2.1; have zC1b3 := fun O => (zC1b O).2.2.2.1; have zC1b4 := fun O => (zC1b O).2.2.2.2.1; have zC1b5 := fun O => (zC1b O).2.2.2.2.2; clear zC1b; have HC1 := Lib.hid C1; clear C1)); (try (have zB0c := B0.fr; have zB0d := fun O => (B0.al O).fr; have zB0e := Nat.ne_of_lt B0.lt; have zB0f := Ne.symm zB0e; have zB0b := fun O => (B0.al O).cells; obtain ⟨zB00, zB01, zB02, zB03, zB04, zB05⟩ := B0.cells; have zB0b0 := fun O => (zB0b O).1; have zB0b1 := fun O => (zB0b O).2.1; have zB0b2 := fun O => (zB0b O).2.2.1; have zB0b3 := fun O => (zB0b O).2.2.2.1; have zB0b4 := fun O => (zB0b O).2.2.2.2.1; have zB0b5 := fun O => (zB0b O).2.2.2.2.2; clear zB0b; have HB0 := Lib.hid B0; clear B0)); (try (have zB1c := B1.fr; have zB1d := fun O => (B1.al O).fr; have zB1e := Nat.ne_of_lt B1.lt; have zB1f := Ne.symm zB1e; have zB1b := fun O => (B1.al O).cells; obtain ⟨zB10, zB11, zB12, zB13, zB14, zB15⟩ := B1.cells; have zB1b0 := fun O => (zB1b O).1; have zB1b1 := fun O => (zB1b O).2.1; have zB1b2 := fun O => (zB1b O).2.2.1; have zB1b3 := fun O => (zB1b O).2.2.2.1; have zB1b4 := fun O => (zB1b O).2.2.2.2.1; have zB1b5 := fun O => (zB1b O).2.2.2.2.2; clear zB1b; have HB1 := Lib.hid B1; clear B1))))
        all_goals (
          go_wp2_with fail
          go_meet
          have g0 : w3.drew.heap.size = w3.heap.size := rfl
          have g1 := size_alloc_drew' w3 zO
          have g2 := size_alloc2_drew w3 zO zO
          have h1 := World.size_alloc wA zO
          have h2 := World.size_alloc (wA.alloc zO) zO
          have s1 := HST.out.size
          have s2 := HSZ.out
          (try have l0 := HAL.out)
          (try have l1 := HAL1.out)
          (try have l2 := HC0.out.lt)
          (try have l3 := HC1.out.lt)
          (try have l4 := HB0.out.lt)
          (try have l5 := HB1.out.lt)
          refine ⟨_, _, p0, p1, p2, p3, p4, p5, p6, p7, p8, p9, q0, q1, q2, q3, q4, q5, q6, q7, q8, q9, tA, tB, rfl, rfl, ?_, ?_, ?_, ?_, HTA.out, HTB.out, ?_⟩
          · repeat (first | with_reducible exact heap_alloc_new _ _ | with_reducible exact heap2_1 _ _ _ | with_reducible refine chain6_zx _ _ _ _ _ _ ?_ | with_reducible exact Zx.new _ | with_reducible exact HC0.out | with_reducible exact HC1.out | with_reducible exact HB0.out | with_reducible exact HB1.out | with_reducible refine Zx.al ?_ _ | with_reducible refine Zx.chain_far _ _ _ _ _ _ (by omega) ?_ | with_reducible refine (chain6_far _ _ _ _ _ _ (by omega)).trans ?_ | with_reducible refine (heap_alloc_old _ _ (by first | omega | (simp only [World.size_alloc]; omega))).trans ?_)
          · repeat (first | with_reducible exact heap_alloc_new _ _ | with_reducible exact heap2_1 _ _ _ | with_reducible refine chain6_zx _ _ _ _ _ _ ?_ | with_reducible exact Zx.new _ | with_reducible exact HC0.out | with_reducible exact HC1.out | with_reducible exact HB0.out | with_reducible exact HB1.out | with_reducible refine Zx.al ?_ _ | with_reducible refine Zx.chain_far _ _ _ _ _ _ (by omega) ?_ | with_reducible refine (chain6_far _ _ _ _ _ _ (by omega)).trans ?_ | with_reducible refine (heap_alloc_old _ _ (by first | omega | (simp only [World.size_alloc]; omega))).trans ?_)
          · refine (HXA.out.turn (S' := fun _ => True) (fun _ _ => trivial) ?_ (fun b hS hl => ?_)).at_
            · simp only [World.size_setCell, World.size_alloc]; omega
            · (try dsimp only at hS)
              (try simp only [size_alloc2_drew, size_alloc_drew', World.size_alloc] at hS)
              repeat (first | with_reducible refine (chain6_far _ _ _ _ _ _ (by omega)).trans ?_ | with_reducible refine (heap_alloc_old _ _ (by first | omega | (simp only [World.size_alloc]; omega))).trans ?_ | with_reducible exact HST.out.block b hl | with_reducible rfl)
          · refine (HXB.out.turn (S' := fun _ => True) (fun _ _ => trivial) ?_ (fun b hS hl => ?_)).at_
            · simp only [World.size_setCell, World.size_alloc]; omega
            · (try dsimp only at hS)
              (try simp only [size_alloc2_drew, size_alloc_drew', World.size_alloc] at hS)
              repeat (first | with_reducible refine (chain6_far _ _ _ _ _ _ (by omega)).trans ?_ | with_reducible refine (heap_alloc_old _ _ (by first | omega | (simp only [World.size_alloc]; omega))).trans ?_ | with_reducible exact HST.out.block b hl | with_reducible rfl)
          · repeat (first | with_reducible exact HBC.out | with_reducible refine below_alx ?_ _ | with_reducible refine below_chain6 ?_ (by first | exact HSZ.out | exact Nat.le_succ_of_le HSZ.out | exact HBA.out.size | exact Nat.le_succ_of_le HBA.out.size | exact HBC.out.size | exact Nat.le_succ_of_le HBC.out.size) _ _ _ _ _ _))
      case rest =>
        obtain ⟨b1, b2, p0, p1, p2, p3, p4, p5, p6, p7, p8, p9, q0, q1, q2, q3, q4, q5, q6, q7, q8, q9, tA, tB, rfl, rfl, hr1, hr2, hv1, hv2, hc1, hc2, hb⟩ := hcut
        have HE := Lib.hid (implEqualDepth_any 4 D _ _ tA tB wc (by decide) hv1 hv2 hc1 hc2 (HKT.out wc hb) (HCL.out wc hb) (by omega) (by omega))
        have HS := Lib.hid (fun W (hw : Below wc.heap.size wc W) => SEq_any 4 _ _ tA tB W (hv1.below hw) (hv2.below hw) hc1 hc2)
        have HR1 := Lib.hid hr1; have HR2 := Lib.hid hr2; have HBB := Lib.hid (HB1.out.trans (hb.mono HB1.out.size))
        obtain ⟨r, hr⟩ : ∃ r, r = eqv 4 tA tB := ⟨_, rfl⟩
        rw [← hr] at HE HS
        obtain ⟨c0, c1, c2', c3, c4, c5⟩ := box6 hr1 (Below.refl _ _)
        obtain ⟨d0, d1, d2, d3, d4, d5⟩ := box6 hr2 (Below.refl _ _)
        clear hr hr1 hr2 hv1 hv2 hc1 hc2 hb x0 x1 x2 x3 x4 x5 y0 y1 y2 y3 y4 y5
        go_wp2_with fail
        rw [HD.out]
        refine HE.out.mono ?_
        rintro e w5 ⟨rfl, hb5⟩
        have HS5 := Lib.hid (HS.out w5 hb5)
        have HB5 := Lib.hid (HBB.out.trans (hb5.mono HBB.out.size))
        clear c0 c1 c2' c3 c4 c5 d0 d1 d2 d3 d4 d5
        obtain ⟨c0, c1, c2', c3, c4, c5⟩ := box6 HR1.out hb5
        obtain ⟨d0, d1, d2, d3, d4, d5⟩ := box6 HR2.out hb5
        clear hb5
        go_wp2_with fail
        refine HS5.out.mono ?_
        rintro e w6 ⟨rfl, hb6⟩
        have HB6 := Lib.hid (HB5.out.trans (hb6.mono HB5.out.size))
        clear hb6
        cases r
        all_goals
          go_wp2
          go_ret
          exact ⟨by first | rfl | simp, HB6.out⟩
end Go.Proofs.YtjkmppdmejgjiaaGreatDoor
