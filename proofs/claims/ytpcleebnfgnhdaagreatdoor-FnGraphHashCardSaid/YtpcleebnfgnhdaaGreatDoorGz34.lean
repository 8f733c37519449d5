import Derived.Test.YtpcleebnfgnhdaaGreatDoorGz33
import Derived.Test.YtpcleebnfgnhdaaGreatDoorGz32
import Derived.Test.YtpcleebnfgnhdaaGreatDoorGz12
import Derived.Test.YtpcleebnfgnhdaaGreatDoorGz30
/- Walks: spec.unfolded, spec.Unfolds. -/
set_option linter.unusedVariables false
set_option linter.unusedSimpArgs false
namespace Go.Proofs.YtpcleebnfgnhdaaGreatDoor
open Go.RowKit
open Num

theorem below_aly {w W : World} (h : Below w.heap.size w W) (O : Obj) : Below w.heap.size w (W.alloc O) := h.alloc h.size O
/-- what unfolded leaves: the marks as they were, all else too -/
def UnfIs (bo T n : Nat) (on : Nat → Bool) (w : World) (e : Ending) (w' : World) : Prop := ∃ r : Int, e = .returned (.int .i64 r) ∧ Row w' bo T n (fun j => .bool (on j)) ∧ Chg bo w w'

set_option maxRecDepth 100000 in
set_option maxHeartbeats 4000000 in
theorem unfolded_step (N : List Nd) (S : Nat → Prop) (gs : Value) (root : Int) (i : Nat) (bo T cap : Nat) (on : Nat → Bool) (most : Int) (w : World) (hg : GrB w S gs N) (hS : ¬ S bo) (hn : N.length ≤ 1000) (hi : i ≤ 1000000) (hcap : N.length ≤ cap)
    (hr : Row w bo T N.length (fun j => .bool (on j)))
    (hU : ∀ (i' : Nat) (most' : Int) (on' : Nat → Bool) (W : World), i' ≤ 1000000 → on i = false → on' = (fun j => if j = i then true else on j) → i < N.length → Chg bo w W → Row W bo T N.length (fun j => .bool (on' j)) →
      Calls Tryz.prog 18 #[.agg #[gs, .int .i64 root], .int .i64 i', .slice (some ⟨bo, 0, none⟩) N.length cap, .int .i64 most'] W (UnfIs bo T N.length on' W))
    (hK : ∀ x ∈ N, x.ks.length ≤ 1000 ∧ ∀ k ∈ x.ks, k ≤ 1000000) :
    Calls Tryz.prog 18 #[.agg #[gs, .int .i64 root], .int .i64 i, .slice (some ⟨bo, 0, none⟩) N.length cap, .int .i64 most] w (UnfIs bo T N.length on w) := by
  obtain ⟨sa, sc, rfl⟩ := hg.shape
  obtain ⟨w1, hw1⟩ : ∃ w1, w1 = w.alloc (.cells #[.slice sa N.length sc, .int .i64 root] 24) := ⟨_, rfl⟩
  have hb1 : Below w.heap.size w w1 := by rw [hw1]; exact below_al0 _ _
  have h0 : w1.heap[w.heap.size]? = some (.cells #[.slice sa N.length sc, .int .i64 root] 24 (0, 0)) := by rw [hw1]; exact heap_alloc_new _ _
  have hbw : bo < w.heap.size := hr.lt
  have hlt1 : w.heap.size < w1.heap.size := by rw [hw1]; simp
  have HW1 := Lib.hid hw1; have HB1 := Lib.hid hb1; have H0 := Lib.hid h0
  have c0 : w1.cell? ⟨w.heap.size, 0, none⟩ = some (.slice sa N.length sc) := (cell_of_row _ _ 0 _ _ (0, 0) h0).trans rfl
  have c1 : w1.cell? ⟨w.heap.size, 1, none⟩ = some (.int .i64 root) := (cell_of_row _ _ 1 _ _ (0, 0) h0).trans rfl
  have hr1 := hr.below hb1 hbw
  have HUU := Lib.hid hU
  have HR1 := Lib.hid hr1
  obtain ⟨n, hnn⟩ : ∃ n, n = N.length := ⟨_, rfl⟩
  have HNN := Lib.hid hnn
  by_cases hin : i < N.length
  · have hlt : (i : Int) < (n : Int) := by omega
    have hnge : ¬ ((n : Int) ≤ (i : Int)) := by omega
    have ci : w1.cell? ⟨bo, i, none⟩ = some (.bool (on i)) := hr1.cell hin
    have ciw : w.cell? ⟨bo, i, none⟩ = some (.bool (on i)) := hr.cell hin
    have fiw : w.frozen? ⟨bo, i, none⟩ = false := hr.frozen i
    have fi : w1.frozen? ⟨bo, i, none⟩ = false := hr1.frozen i
    obtain ⟨x, hx⟩ : ∃ x, x = N[i] := ⟨_, rfl⟩
    have hks := hK N[i] (List.getElem_mem hin)
    have HIN := Lib.hid hin
    obtain ⟨g, p, c, e, hc, hc2, hl, hSg, n1, a1, m1, c1', b1, s1, ka, kc, hcells, hvb, hnums⟩ := hg.node i hin
    injection e with e1 _ e3
    subst e1; subst e3
    have hgb : g ≠ bo := fun e => hS (e ▸ hSg)
    rw [← hx] at hks hcells hnums
    have HKS := Lib.hid hks
    obtain ⟨q, hq⟩ : ∃ q, q = on i := ⟨_, rfl⟩
    rw [← hq] at ci ciw
    have HQ := Lib.hid hq
    cases q with
    | true =>
      rw [← hnn] at hn hcap HR1 hc HW1 c0 ⊢
      have HRR := Lib.hid (show Row w1 bo T n (fun j => .bool (on j)) from HR1.out)
      clear hr hr1 hU hg hw1 hb1 h0 hcells hvb hnums hks hx hq HUU hin hnn
      go_enter Tryz.func18, Tryz.ntmps18
      go_wp2_with fail
      rw [← HW1.out]
      go_wp2
      go_ret
      exact ⟨_, rfl, HRR.out, Chg.of_below HB1.out⟩
    | false =>
      obtain ⟨on', hon⟩ : ∃ on' : Nat → Bool, on' = (fun j => if j = i then true else on j) := ⟨_, rfl⟩
      obtain ⟨w2, hw2⟩ : ∃ w2, w2 = (w.setCell ⟨bo, i, none⟩ (.bool true)).alloc (.cells #[.slice (some ⟨g, p, none⟩) N.length sc, .int .i64 root] 24) := ⟨_, rfl⟩
      have hch2 : Chg bo w w2 := by rw [hw2]; exact ((Chg.refl bo w).set i _).alloc _
      have hr2 : Row w2 bo T N.length (fun j => .bool (on' j)) := by
        rw [hw2]
        refine ((hr.set i (.bool true)).alloc _).congr (fun j hj => ?_)
        rw [hon]
        by_cases e : j = i
        · simp [e]
        · simp [e]
      have h02 : w2.heap[w.heap.size]? = some (.cells #[.slice (some ⟨g, p, none⟩) N.length sc, .int .i64 root] 24 (0, 0)) := by
        have := heap_alloc_new (w.setCell ⟨bo, i, none⟩ (.bool true)) (.cells #[.slice (some ⟨g, p, none⟩) N.length sc, .int .i64 root] 24)
        rw [World.size_setCell] at this
        rw [hw2]; exact this
      have hl2 : w.heap.size < w2.heap.size := by rw [hw2]; simp
      obtain ⟨K, hKK⟩ : ∃ K, K = x.ks.length := ⟨_, rfl⟩
      have HKK := Lib.hid hKK
      have hK1 : K ≤ 1000 := by omega
      have HCC := Lib.hid (show ∀ W, Chg bo w2 W → W.cell? ⟨w.heap.size, 0, none⟩ = some (.slice (some ⟨g, p, none⟩) n sc) ∧ W.cell? ⟨w.heap.size, 1, none⟩ = some (.int .i64 root) ∧ W.cell? ⟨g, p + i * 6 + 5, none⟩ = some (.slice ka K kc) from fun W hc => by
        have hct := hch2.trans hc
        have h00 := (hc.block w.heap.size hl2 (by omega)).trans h02
        refine ⟨?_, (cell_of_row _ _ 1 _ _ (0, 0) h00).trans rfl, ?_⟩
        · rw [hnn]; exact (cell_of_row _ _ 0 _ _ (0, 0) h00).trans rfl
        · rw [hKK]; exact (hct.cell (p := ⟨g, p + i * 6 + 5, none⟩) hl hgb).trans hcells.2.2.2.2.2)
      have HKD := Lib.hid (show ∀ k (h : k < K), ∃ g2 p2 y : Nat, ka = some ⟨g2, p2, none⟩ ∧ K ≤ kc ∧ kc ≤ 9223372036854775807 ∧ y ≤ 1000000 ∧ ∀ W, Chg bo w2 W → W.cell? ⟨g2, p2 + k, none⟩ = some (.int .i64 y) from fun k h => by
        obtain ⟨g2, p2, e1, e2, e3, e4, e5, e6, e7⟩ := hnums.get k (by omega)
        exact ⟨g2, p2, x.ks[k]'(by omega), e1, by omega, e4, hks.2 _ (List.getElem_mem _), fun W hc => ((hch2.trans hc).cell (p := ⟨g2, p2 + k, none⟩) e6 (fun e => hS (e ▸ e5))).trans e7⟩)
      have HU2 := Lib.hid (show ∀ (i' : Nat) (most' : Int) (W : World), i' ≤ 1000000 → Chg bo w2 W → Row W bo T n (fun j => .bool (on' j)) →
        Calls Tryz.prog 18 #[.agg #[.slice (some ⟨g, p, none⟩) n sc, .int .i64 root], .int .i64 i', .slice (some ⟨bo, 0, none⟩) n cap, .int .i64 most'] W (UnfIs bo T n on' W) from fun i' most' W h1 h2 h3 => by
          rw [hnn] at h3 ⊢
          exact hU i' most' on' W h1 hq.symm hon hin (hch2.trans h2) h3)
      have HON := Lib.hid hon; have HW2 := Lib.hid hw2; have HCH2 := Lib.hid hch2
      have HR2 := Lib.hid (show Row w2 bo T n (fun j => .bool (on' j)) by rw [hnn]; exact hr2)
      rw [← hnn] at hn hcap hc HW2 c0 ⊢
      clear hr hr1 hU hg hw1 hb1 h0 hcells hvb hnums hks hx hq HUU hin hnn hon hw2 hch2 hr2 hKK HR1  h02 hl2
      go_enter Tryz.func18, Tryz.ntmps18
      go_wp2
      rw [← HW2.out]
      clear c0 c1 ci fi ciw fiw
      go_loopw [9, 10] (fun s9 s10 wr => ∃ (z : Int) (k : Nat), s9 = .int .i64 z ∧ s10 = .int .i64 k ∧ k ≤ K ∧ Row wr bo T n (fun j => .bool (on' j)) ∧ Chg bo w2 wr) (fun _ j _ => K - (intOf j).toNat)
      case atStart => exact ⟨1, 0, rfl, rfl, by omega, HR2.out, Chg.refl _ _⟩
      case round =>
        obtain ⟨z, k, rfl, rfl, hk, hrr, hcc⟩ := hrel
        have HRR := Lib.hid hrr; have HCH := Lib.hid hcc
        obtain ⟨y0, y1, y5⟩ := HCC.out wr hcc
        have yi : wr.cell? ⟨bo, i, none⟩ = some (.bool true) := by
          have h := hrr.cell (i := i) (by have := HNN.out; have := HIN.out; omega)
          rw [HON.out] at h
          simpa using h
        have yf := hrr.frozen i
        have HEND := Lib.hid (show Row (wr.setCell ⟨bo, i, none⟩ (.bool false)) bo T n (fun j => .bool (on j)) from (hrr.set i (.bool false)).congr (fun j hj => by
          by_cases e : j = i
          · subst e; simp [HQ.out]
          · simp [e, HON.out]))
        have HCE := Lib.hid (show Chg bo w (wr.setCell ⟨bo, i, none⟩ (.bool false)) from (HCH2.out.trans hcc).set i _)
        clear hrr hcc
        by_cases he : k < K
        · have hltk : (k : Int) < (K : Int) := by omega
          by_cases hz : z ≤ most
          · obtain ⟨g2, p2, y, rfl, hkc, hkc2, hy, hcell⟩ := HKD.out k he
            have HYC := Lib.hid (show ∀ W, Chg bo w2 W → W.cell? ⟨w.heap.size, 0, none⟩ = some (.slice (some ⟨g, p, none⟩) n sc) ∧ W.cell? ⟨w.heap.size, 1, none⟩ = some (.int .i64 root) ∧ W.cell? ⟨g, p + i * 6 + 5, none⟩ = some (.slice (some ⟨g2, p2, none⟩) K kc) ∧ W.cell? ⟨g2, p2 + k, none⟩ = some (.int .i64 y) from fun W hc => ⟨(HCC.out W hc).1, (HCC.out W hc).2.1, (HCC.out W hc).2.2, hcell W hc⟩)
            have HCW := Lib.hid HCH.out.drew
            have HC := Lib.hid (fun m => HU2.out y m wr.drew hy HCH.out.drew (HRR.out.drew))
            clear hcell HCC HEND HCE yi yf
            go_wp2
            go_region_held3 (fun W => Chg bo w2 W ∧ W.cell? ⟨w.heap.size, 0, none⟩ = some (.slice (some ⟨g, p, none⟩) n sc) ∧ W.cell? ⟨w.heap.size, 1, none⟩ = some (.int .i64 root) ∧ W.cell? ⟨g, p + i * 6 + 5, none⟩ = some (.slice (some ⟨g2, p2, none⟩) K kc) ∧ W.cell? ⟨g2, p2 + k, none⟩ = some (.int .i64 y)) (first | exact ⟨HCW.out, HYC.out _ HCW.out⟩) (first | (go_simp; go_at_call 18; (with_reducible refine (HC.out _).mono ?_); rintro e w5 ⟨r, rfl, hrr5, hch5⟩; have HCW := Lib.hid (HCH.out.drew.trans hch5); have HR5 := Lib.hid hrr5; clear hrr5 hch5))
            all_goals (
              go_wp2
              go_round
              case rel => exact ⟨_, k + 1, rfl, by go_num, by omega, HR5.out, HCW.out⟩
              case measure => simp [intOf]; omega)
          · have hz2 : decide (z ≤ most) = false := by simp; omega
            go_wp2
            go_ret
            exact ⟨_, rfl, HEND.out, HCE.out⟩
        · have hge : ¬ ((k : Int) < (K : Int)) := by omega
          go_wp2
          go_ret
          exact ⟨_, rfl, HEND.out, HCE.out⟩
  · have hge : (n : Int) ≤ (i : Int) := by omega
    rw [← hnn] at hn hcap HR1 HW1 c0 ⊢
    clear hr hr1 hU hg hw1 hb1 h0 hnn HUU
    go_enter Tryz.func18, Tryz.ntmps18
    go_wp2_with fail
    rw [← HW1.out]
    go_wp2
    go_ret
    exact ⟨_, rfl, HR1.out, Chg.of_below HB1.out⟩

theorem unfolded_any : ∀ (f : Nat) (N : List Nd) (S : Nat → Prop) (gs : Value) (root : Int) (i : Nat) (bo T cap : Nat) (on : Nat → Bool) (most : Int) (w : World), GrB w S gs N → ¬ S bo → N.length ≤ 1000 → i ≤ 1000000 → N.length ≤ cap →
    Row w bo T N.length (fun j => .bool (on j)) → (∀ x ∈ N, x.ks.length ≤ 1000 ∧ ∀ k ∈ x.ks, k ≤ 1000000) → unm on N.length < f →
    Calls Tryz.prog 18 #[.agg #[gs, .int .i64 root], .int .i64 i, .slice (some ⟨bo, 0, none⟩) N.length cap, .int .i64 most] w (UnfIs bo T N.length on w)
  | 0, _, _, _, _, _, _, _, _, _, _, _, _, _, _, _, _, _, _, h => absurd h (Nat.not_lt_zero _)
  | f + 1, N, S, gs, root, i, bo, T, cap, on, most, w, hg, hS, hn, hi, hcap, hr, hK, hf =>
    unfolded_step N S gs root i bo T cap on most w hg hS hn hi hcap hr (fun i' most' on' W hi' ho hon hin hch hrow =>
      unfolded_any f N S gs root i' bo T cap on' most' W (hg.chg hch hS) hS hn hi' hcap hrow hK (by
        have := unm_set ho N.length hin
        rw [hon]
        omega)) hK

theorem boolInfo : (Tryz.prog.info? 4).map (fun i => (i.zero, i.size, i.bytes)) = some (some (.bool false), 1, 1) := by kernel_rfl
theorem boolsUnder : Tryz.prog.underlying 52 = some (.slice 4) := by kernel_rfl
theorem run_make_bools (n : Nat) (hc : n ≤ 1099511627776) : ∀ W : World, (Instr.makeSlice 52 (.int .i64 (n : Int)) (.int .i64 (n : Int))).run Tryz.prog W =
    .ok (.slice (some ⟨W.heap.size, 0, none⟩) n n) (W.alloc (.cells (madeCells #[.bool false] n) 4)) := by
  intro W
  obtain ⟨i0, hi, hzz⟩ := Option.map_eq_some_iff.1 boolInfo
  simp only [Prod.mk.injEq] at hzz
  obtain ⟨hz0, hz1, hz2⟩ := hzz
  have h := run_make (P := Tryz.prog) W 52 4 i0 (.bool false) boolsUnder hi hz0 .i64 .i64 (n : Int) (n : Int) (by omega) (by omega) (by rw [hz2]; omega) (by omega)
  simp only [Int.toNat_natCast, hz1, Nat.mul_one] at h
  exact h
theorem unm_le (on : Nat → Bool) : ∀ n, unm on n ≤ n
  | 0 => Nat.le_refl _
  | n + 1 => by
    have := unm_le on n
    unfold unm
    split <;> omega
/-- .. with marks that were just made -/
theorem unfolded_new (N : List Nd) (S : Nat → Prop) (gs : Value) (root : Int) (i : Nat) (most : Int) (w : World) (hg : GrB w S gs N) (hS : ∀ b, S b → b < w.heap.size) (hn : N.length ≤ 1000) (hi : i ≤ 1000000) (hK : ∀ x ∈ N, x.ks.length ≤ 1000 ∧ ∀ k ∈ x.ks, k ≤ 1000000) :
    Calls Tryz.prog 18 #[.agg #[gs, .int .i64 root], .int .i64 i, .slice (some ⟨w.heap.size, 0, none⟩) N.length N.length, .int .i64 most] (w.alloc (.cells (madeCells #[.bool false] N.length) 4)) fun e w' => ∃ r : Int, e = .returned (.int .i64 r) ∧ Below w.heap.size w w' := by
  have hr := Row.made w 4 N.length (.bool false)
  refine (unfolded_any (N.length + 1) N S gs root i w.heap.size 4 N.length (fun _ => false) most _ (hg.below (below_al0 _ _)) (fun h => absurd (hS _ h) (by omega)) hn hi (Nat.le_refl _) hr hK (by have := unm_le (fun _ => false) N.length; omega)).mono ?_
  rintro e w' ⟨r, rfl, _, hc⟩
  exact ⟨r, rfl, Chg.below (below_al0 w _) (by simp) hc (Nat.le_refl _)⟩

set_option maxRecDepth 100000 in
set_option maxHeartbeats 4000000 in
theorem Unfolds_any (N : List Nd) (S : Nat → Prop) (gs : Value) (root : Int) (most : Int) (w : World) (hg : GrB w S gs N) (hS : ∀ b, S b → b < w.heap.size) (hn : N.length ≤ 1000) (hK : ∀ x ∈ N, x.ks.length ≤ 1000 ∧ ∀ k ∈ x.ks, k ≤ 1000000) :
    Calls Tryz.prog 7 #[.agg #[gs, .int .i64 root], .int .i64 most] w fun e w' => ∃ r, e = .returned (.bool r) ∧ Below w.heap.size w w' := by
  obtain ⟨sa, sc, rfl⟩ := hg.shape
  obtain ⟨w1, hw1⟩ : ∃ w1, w1 = w.alloc (.cells #[.slice sa N.length sc, .int .i64 root] 24) := ⟨_, rfl⟩
  have hb1 : Below w.heap.size w w1 := by rw [hw1]; exact below_al0 _ _
  have h0 : w1.heap[w.heap.size]? = some (.cells #[.slice sa N.length sc, .int .i64 root] 24 (0, 0)) := by rw [hw1]; exact heap_alloc_new _ _
  have hl1 : w.heap.size < w1.heap.size := by rw [hw1]; simp
  obtain ⟨n, hnn⟩ : ∃ n, n = N.length := ⟨_, rfl⟩
  have HZ := Lib.hid (show ∀ W, Below w1.heap.size w1 W → W.cell? ⟨w.heap.size, 0, none⟩ = some (.slice sa n sc) ∧ W.cell? ⟨w.heap.size, 1, none⟩ = some (.int .i64 root) from fun W hb => by
    have h00 := (hb.block w.heap.size hl1).trans h0
    rw [hnn]
    exact ⟨(cell_of_row _ _ 0 _ _ (0, 0) h00).trans rfl, (cell_of_row _ _ 1 _ _ (0, 0) h00).trans rfl⟩)
  have HU := Lib.hid (show ∀ (i : Nat) (W : World), i ≤ 1000000 → Below w1.heap.size w1 W → Calls Tryz.prog 18 #[.agg #[.slice sa n sc, .int .i64 root], .int .i64 i, .slice (some ⟨W.heap.size, 0, none⟩) n n, .int .i64 most] (W.alloc (.cells (madeCells #[.bool false] n) 4)) fun e w' => ∃ r : Int, e = .returned (.int .i64 r) ∧ Below W.heap.size W w' from fun i W hi hb => by
    rw [hnn]
    exact unfolded_new N S _ root i most W ((hg.below hb1).below hb) (fun b h => Nat.lt_of_lt_of_le (hS b h) (Nat.le_trans hb1.size hb.size)) hn hi hK)
  have hmk := run_make_bools n (by omega)
  have HW1 := Lib.hid hw1; have HB1 := Lib.hid hb1
  rw [← hnn] at hn HW1 ⊢
  obtain ⟨x0, x1⟩ := HZ.out w1 (Below.refl _ _)
  clear hg hS hK hw1 hb1 h0 hl1 hnn
  go_enter Tryz.func7, Tryz.ntmps7
  go_wp2_with fail
  rw [← HW1.out]
  go_wp2
  clear x0 x1
  go_loopw [5, 9] (fun s i wr => ∃ k : Nat, k ≤ n ∧ i = .int .i64 k ∧ Below w1.heap.size w1 wr) (fun _ i _ => n - (intOf i).toNat)
  case atStart => exact ⟨0, by omega, rfl, Below.refl _ _⟩
  case round =>
    obtain ⟨k, hk, rfl, hb⟩ := hrel
    obtain ⟨x0, x1⟩ := HZ.out wr hb
    have HBW := Lib.hid hb
    have HBC := Lib.hid hb.drew
    have HC := Lib.hid (show Calls Tryz.prog 18 #[.agg #[.slice sa n sc, .int .i64 root], .int .i64 k, .slice (some ⟨wr.heap.size, 0, none⟩) n n, .int .i64 most] (wr.alloc (.cells (madeCells #[.bool false] n) 4)).drew fun e w' => ∃ r : Int, e = .returned (.int .i64 r) ∧ Below wr.heap.size wr.drew w' from HU.out k wr.drew (by omega) hb.drew)
    clear hb
    by_cases he : k < n
    · have hltk : (k : Int) < (n : Int) := by omega
      go_wp2
      go_region_held3 (fun W => Below w1.heap.size w1 W ∧ W.cell? ⟨w.heap.size, 0, none⟩ = some (.slice sa n sc) ∧ W.cell? ⟨w.heap.size, 1, none⟩ = some (.int .i64 root)) (first | exact ⟨HBC.out, HZ.out _ HBC.out⟩ | exact ⟨below_aly HBC.out _, HZ.out _ (below_aly HBC.out _)⟩) (first | (go_simp; go_at_call 18; (with_reducible refine HC.out.mono ?_); rintro e w5 ⟨r, rfl, hb5⟩; have HBC := Lib.hid (HBC.out.trans (hb5.mono HBC.out.size)); clear hb5))
      all_goals (
        by_cases hr : most < r
        · go_wp2
          go_ret
          first | exact ⟨_, rfl, HB1.out.trans (HBC.out.mono HB1.out.size)⟩ | exact ⟨by first | exact .inl rfl | exact .inr rfl, HB1.out.trans (HBC.out.mono HB1.out.size)⟩
        · go_wp2
          go_round
          case rel => exact ⟨k + 1, by omega, by go_num, HBC.out⟩
          case measure => simp [intOf]; omega)
    · have hge : ¬ ((k : Int) < (n : Int)) := by omega
      go_wp2
      go_ret
      first | exact ⟨_, rfl, HB1.out.trans (HBW.out.mono HB1.out.size)⟩ | exact ⟨by first | exact .inl rfl | exact .inr rfl, HB1.out.trans (HBW.out.mono HB1.out.size)⟩
end Go.Proofs.YtpcleebnfgnhdaaGreatDoor

/- A value is appended to the kids of a value that lies in a block of the call's own. -/
set_option linter.unusedVariables false
set_option linter.unusedSimpArgs false
namespace Go.Proofs.YtpcleebnfgnhdaaGreatDoor
open Go.RowKit
open Num

/-- what is at hand when values are appended: block O holds the value, its kids are es -/
structure PushOwn (base O : Nat) (T : Nat → Prop) (d : Nat) (c0 c1 c2 c3 c4 : Value) (ns : List (Value × Tr)) (ks : Value) (es : List (Value × Tr)) (w6 : World) (g : Nat) : Prop where
  o : w6.heap[O]? = some (.cells #[c0, c1, c2, c3, c4, ks] 32 (0, 0))
  own : OwnE base T w6 d ks es
  ob : O < base
  ot : ¬ T O
  bl : base ≤ w6.heap.size
  l : es.length ≤ 900
  n : ns.length ≤ 100
  g : w6.heap[g]? = some (.cells (ns.flatMap fun e => six e.1).toArray 32 (0, 0))
  one : ∀ u ∈ ns.flatMap (fun e => six e.1), u.oneCell' = true
  ent : ∀ e ∈ ns, EntAt T w6 d ks e
/-- what is so behind it -/
structure Pushed (base O : Nat) (T : Nat → Prop) (d : Nat) (c0 c1 c2 c3 c4 : Value) (es : List (Value × Tr)) (ks : Value) (w6 w8 : World) : Prop where
  o : w8.heap[O]? = some (.cells #[c0, c1, c2, c3, c4, ks] 32 (0, 0))
  own : OwnE base T w8 d ks es
  b : Below O w6 w8
theorem PushOwn.run {base O : Nat} {T : Nat → Prop} {d : Nat} {c0 c1 c2 c3 c4 : Value} {ns : List (Value × Tr)} {ks : Value} {es : List (Value × Tr)} {w6 : World} {g c m : Nat} (ty : TypeId) (h : PushOwn base O T d c0 c1 c2 c3 c4 ns ks es w6 g) (hm : ns.length = m) :
    ∃ a' n' c' w7, (Builtin.append_ #[30, 30] ty #[ks, .slice (some ⟨g, 0, none⟩) m c]).run Tryz.prog w6 = .ok (.slice a' n' c') w7 ∧ w7.cell? ⟨O, 5, none⟩ = some ks ∧ (∀ i, w7.frozen? ⟨O, i, none⟩ = false) ∧
      Pushed base O T d c0 c1 c2 c3 c4 (es ++ ns) (.slice a' n' c') w6 (w7.setCell ⟨O, 5, none⟩ (.slice a' n' c')) := by
  obtain ⟨v', w7, hr, h2, h3⟩ := run_append_kids (c := c) ty h.own (by have := h.l; omega) h.bl g ns (by have := h.n; omega) (fun j u hj => by
    rw [cell_of_row w6 g j _ _ (0, 0) h.g]; simpa using hj) h.one h.ent
  rw [hm] at hr
  obtain ⟨a', c', rfl⟩ := h2.shape
  have hob := h.ob
  have hne : ∀ b, b < base → some b ≠ ks.ownBlock := fun b hb e => by have := (h.own.lt b e.symm).1; omega
  have hO := (Array.getElem?_eq_some_iff.1 h.o).1
  have ho := (h3.block _ hO (hne _ hob)).trans h.o
  have hlt := (Array.getElem?_eq_some_iff.1 ho).1
  have hc : Chg O w7 (w7.setCell ⟨O, 5, none⟩ (.slice a' (es ++ ns).length c')) := (Chg.refl _ _).set 5 _
  refine ⟨a', _, c', w7, hr, (cell_of_row _ _ 5 _ _ (0, 0) ho).trans rfl, six_frozen ho, (set1 (i := 5) (x := .slice a' (es ++ ns).length c') ho).trans rfl, h2.chg hc hob h.ot, ?_⟩
  exact ⟨hc.os.trans h3.os, hc.tape.trans h3.tape, hc.output.trans h3.output, Nat.le_trans h3.size hc.size, fun b hb => (hc.block b (by omega) (by omega)).trans (h3.block b (by omega) (hne b (by omega)))⟩
theorem wpList_push_own {base O : Nat} {T : Nat → Prop} {d : Nat} {c0 c1 c2 c3 c4 : Value} {ns : List (Value × Tr)} {ks : Value} {es : List (Value × Tr)} {w6 : World} {g c m : Nat} {o : Oper} {ops : Array Oper} {rest : List Oper} {a : Act} {Q : Exit → Act → World → Prop} (hgd : o.guard = none) (s x : Operand)
    (ho : o.op = .call { callee := .builtin .append, args := #[s, x], argTypes := #[30, 30] }) (hs : a.eval s = ks) (hx : a.eval x = .slice (some ⟨g, 0, none⟩) m c) (h : PushOwn base O T d c0 c1 c2 c3 c4 ns ks es w6 g) (hm : ns.length = m)
    (hK : ∀ a' n' c' w7, w7.cell? ⟨O, 5, none⟩ = some ks → (∀ i, w7.frozen? ⟨O, i, none⟩ = false) → Hid (Pushed base O T d c0 c1 c2 c3 c4 (es ++ ns) (.slice a' n' c') w6 (w7.setCell ⟨O, 5, none⟩ (.slice a' n' c'))) → wpList Tryz.prog ops Q rest (a.put o.dst (.slice a' n' c')) w7) :
    wpList Tryz.prog ops Q (o :: rest) a w6 := by
  obtain ⟨a', n', c', w7, hr, h1, h2, h3⟩ := h.run (c := c) o.type hm
  refine wpList_plain hgd fun K hK' => ?_
  unfold Oper.wp execOp
  simp only [ho, resolve, invoke, builtin, Sem.run_bind, Sem.run_pure, Result.andThen_ok, List.map_toArray, List.map_cons, List.map_nil, hs, hx, hr]
  exact hK' _ _ (hK a' n' c' w7 h1 h2 (Lib.hid h3))

/-- flat values have no levels -/
theorem ValB.any_level {w : World} {S : Nat → Prop} {d e : Nat} {v : Value} {T : Tr} (h : ValB w S (d + 1) v T) (hk : T.kind < 6) : ValB w S (e + 1) v T := by
  cases T <;> first | exact h | (exfalso; simp [Tr.kind] at hk; done)
/-- a value whose kids lie in blocks of S2 -/
theorem val_kids {w : World} {S : Nat → Prop} {d : Nat} {n : Bool} {a : Option Addr} {m c : Nat} {b : Int} {s : ByteArray} {T : Tr} {ks : Value} {ts : List Tr} (h : ValB w S 1 (sixV T.kind n a m c b s none 0 0) (withKids T []))
    (hk : KidsB w S (ValB w S d) ks ts) (h0 : T.kind < 6 → ks = .slice none 0 0) :
    ValB w S (d + 1) (.agg #[.int .i64 T.kind, .bool n, .slice a m c, .int .u64 b, .string s, ks]) (withKids T ts) := by
  have box : ∀ (k : Int), (∃ ks', sixV k n a m c b s none 0 0 = valSix k 0 ⟨#[]⟩ ks' ∧ KidsB w S (ValB w S 0) ks' []) → ∃ ks', (.agg #[.int .i64 k, .bool n, .slice a m c, .int .u64 b, .string s, ks] : Value) = valSix k 0 ⟨#[]⟩ ks' ∧ KidsB w S (ValB w S d) ks' ts := fun k ⟨ks', e, _⟩ => by
    injection e with e
    injection e with e
    injection e with q0 e; injection e with q1 e; injection e with q2 e; injection e with q3 e; injection e with q4 e; injection e with q5 e
    refine ⟨ks, ?_, hk⟩
    rw [q1, q2, q3, q4]
  have flat : T.kind < 6 → (.agg #[.int .i64 T.kind, .bool n, .slice a m c, .int .u64 b, .string s, ks] : Value) = sixV T.kind n a m c b s none 0 0 := fun hk => by rw [h0 hk]
  cases T with
  | lst l => exact box 6 h
  | tup l => exact box 7 h
  | dic l => exact box 8 h
  | set l => exact box 9 h
  | non => rw [flat (show (0 : Int) < 6 by decide)]; exact ValB.any_level (d := 0) (T := .non) h (show (0 : Int) < 6 by decide)
  | bool x => rw [flat (show (1 : Int) < 6 by decide)]; exact ValB.any_level (d := 0) (T := .bool x) h (show (1 : Int) < 6 by decide)
  | int x V => rw [flat (show (2 : Int) < 6 by decide)]; exact ValB.any_level (d := 0) (T := .int x V) h (show (2 : Int) < 6 by decide)
  | flt B => rw [flat (show (3 : Int) < 6 by decide)]; exact ValB.any_level (d := 0) (T := .flt B) h (show (3 : Int) < 6 by decide)
  | str x => rw [flat (show (4 : Int) < 6 by decide)]; exact ValB.any_level (d := 0) (T := .str x) h (show (4 : Int) < 6 by decide)
  | byt x => rw [flat (show (5 : Int) < 6 by decide)]; exact ValB.any_level (d := 0) (T := .byt x) h (show (5 : Int) < 6 by decide)
end Go.Proofs.YtpcleebnfgnhdaaGreatDoor

/- Walks: any value of the specification is made clean: its kind; scalars. -/
set_option linter.unusedVariables false
set_option linter.unusedSimpArgs false
namespace Go.Proofs.YtpcleebnfgnhdaaGreatDoor
open Go.RowKit
open Num

/-- the kind that Clean makes of a number, with so many levels left -/
def ckind (k : Int) (deep : Nat) : Int := if deep = 0 ∧ 6 ≤ k % 10 then k % 10 - 6 else k % 10

theorem ckind_cases {k : Int} {deep : Nat} {v : Int} (h : ckind k deep = v) (h0 : 0 ≤ v) (h9 : v ≤ 9) : (0 < deep ∧ k % 10 = v) ∨ (deep = 0 ∧ k % 10 = v ∧ v < 6) ∨ (deep = 0 ∧ k % 10 = v + 6) := by
  unfold ckind at h
  split at h <;> omega
theorem kind_mod (k : Int) (hk : -9223372036854775808 ≤ k ∧ k ≤ 9223372036854775807) : (wrap64 (k.tmod 10 + 10)).tmod 10 = k % 10 ∧ 0 ≤ k % 10 ∧ k % 10 ≤ 9 := by
  have h1 : -9 ≤ k.tmod 10 ∧ k.tmod 10 ≤ 9 ∧ (k.tmod 10 + 10) % 10 = k % 10 := by
    have h0 := @Int.tmod_eq_emod k 10
    split at h0
    · omega
    · rw [show ((10 : Int).natAbs : Int) = 10 by decide] at h0
      omega
  have h2 : wrap64 (k.tmod 10 + 10) = k.tmod 10 + 10 := by unfold wrap64; omega
  rw [h2]
  have h3 := Int.tmod_eq_emod_of_nonneg (show 0 ≤ k.tmod 10 + 10 by omega) (b := 10)
  omega

/-- what Clean leaves -/
def CleanIs (deep : Nat) (w : World) (e : Ending) (w' : World) : Prop :=
  ∃ x T, e = .returned x ∧ ValB w' (fun b => w.heap.size ≤ b) (deep + 1) x T ∧ CleanT (deep + 1) T ∧ Below w.heap.size w w'

set_option maxRecDepth 100000 in
set_option maxHeartbeats 4000000 in
theorem Clean_none (k n a m c b s a2 m2 c2) (deep : Nat) (hd : deep ≤ 100) (hk : -9223372036854775808 ≤ k ∧ k ≤ 9223372036854775807) (hq : ckind k deep = 0) (w : World) :
    Calls Tryz.prog 23 #[sixV k n a m c b s a2 m2 c2, .int .i64 deep] w fun e w' => e = .returned (valSix 0 0 ⟨#[]⟩ (.slice none 0 0)) ∧ Below w.heap.size w w' := by
  obtain ⟨hm, hq0, hq9⟩ := kind_mod k hk
  have hcs := ckind_cases hq (by decide) (by decide)
  clear hq
  obtain ⟨q, hqq⟩ : ∃ q, q = k % 10 := ⟨_, rfl⟩
  rw [← hqq] at hm hq0 hq9 hcs
  obtain ⟨w1, hw1⟩ : ∃ w1, w1 = (w.alloc (sixO k n a m c b s a2 m2 c2)).alloc (sixO 0 false none 0 0 0 ⟨#[]⟩ none 0 0) := ⟨_, rfl⟩
  obtain ⟨r0, r1, hb1, _⟩ := two_new w (sixO k n a m c b s a2 m2 c2) (sixO 0 false none 0 0 0 ⟨#[]⟩ none 0 0)
  rw [← hw1] at r0 r1 hb1
  have HW1 := Lib.hid hw1; have HB1 := Lib.hid hb1; have HR0 := Lib.hid r0; have HR1 := Lib.hid r1
  obtain ⟨x0, x1, x2, x3, x4, x5⟩ := box6 r0 (Below.refl _ _)
  obtain ⟨z0, z1, z2, z3, z4, z5⟩ := box6 r1 (Below.refl _ _)
  have fz : ∀ i, w1.frozen? ⟨w.heap.size + 1, i, none⟩ = false := six_frozen r1
  clear hw1 r0 r1 hb1 hqq hk
  rcases hcs with ⟨hd0, rfl⟩ | ⟨rfl, rfl, _⟩ | ⟨rfl, rfl⟩
  · have hdd : ¬ ((deep : Int) ≤ 0) := by omega
    go_enter Tryz.func23, Tryz.ntmps23
    go_upto_if 18 with fail
    rw [← HW1.out]
    go_wp2
    obtain ⟨e0, e1, e2, e3, e4, e5⟩ := box6 (put6_heap HR1.out) (Below.refl _ (put6 w1 (w.heap.size + 1) (.int .i64 0) (.bool false) (.slice none 0 0) (.int .u64 0) (.string ⟨#[]⟩) (.slice none 0 0)))
    unfold put6 at e0 e1 e2 e3 e4 e5
    exact bodyPost_ret (v := sixV 0 false none 0 0 0 ⟨#[]⟩ none 0 0) (by simp [results, Tryz.results23, go_sem, e0, e1, e2, e3, e4, e5]) rfl ⟨rfl, Chg.below HB1.out HB1.out.size (put6_chg _ _ _ _ _ _ _ _) (by omega)⟩
  all_goals
    go_enter Tryz.func23, Tryz.ntmps23
    go_upto_if 18 with fail
    rw [← HW1.out]
    go_wp2
    obtain ⟨e0, e1, e2, e3, e4, e5⟩ := box6 (put6_heap HR1.out) (Below.refl _ (put6 w1 (w.heap.size + 1) (.int .i64 0) (.bool false) (.slice none 0 0) (.int .u64 0) (.string ⟨#[]⟩) (.slice none 0 0)))
    unfold put6 at e0 e1 e2 e3 e4 e5
    exact bodyPost_ret (v := sixV 0 false none 0 0 0 ⟨#[]⟩ none 0 0) (by simp [results, Tryz.results23, go_sem, e0, e1, e2, e3, e4, e5]) rfl ⟨rfl, Chg.below HB1.out HB1.out.size (put6_chg _ _ _ _ _ _ _ _) (by omega)⟩

theorem BoolVal_any (b : Bool) (w : World) : Calls Tryz.prog 39 #[.bool b] w fun e w' => e = .returned (valSix 1 (if b then 1 else 0) ⟨#[]⟩ (.slice none 0 0)) ∧ Below w.heap.size w w' := by
  cases b
  all_goals
    go_enter Tryz.func39, Tryz.ntmps39
    go_wp2
  · obtain ⟨e0, e1, e2, e3, e4, e5⟩ := box6 (heap_alloc_new w (sixO 1 false none 0 0 0 ⟨#[]⟩ none 0 0)) (Below.refl _ _)
    exact bodyPost_ret (v := sixV 1 false none 0 0 0 ⟨#[]⟩ none 0 0) (by simp [results, Tryz.results39, go_sem, e0, e1, e2, e3, e4, e5]) rfl ⟨rfl, (Below.refl _ _).alloc (Nat.le_refl _) _⟩
  · obtain ⟨e0, e1, e2, e3, e4, e5⟩ := box6 (heap_alloc_new w (sixO 1 false none 0 0 1 ⟨#[]⟩ none 0 0)) (Below.refl _ _)
    exact bodyPost_ret (v := sixV 1 false none 0 0 1 ⟨#[]⟩ none 0 0) (by simp [results, Tryz.results39, go_sem, e0, e1, e2, e3, e4, e5]) rfl ⟨rfl, (Below.refl _ _).alloc (Nat.le_refl _) _⟩

set_option maxRecDepth 100000 in
set_option maxHeartbeats 4000000 in
theorem Clean_bool (k n a m c b s a2 m2 c2) (deep : Nat) (hd : deep ≤ 100) (hk : -9223372036854775808 ≤ k ∧ k ≤ 9223372036854775807) (hq : ckind k deep = 1) (w : World) :
    Calls Tryz.prog 23 #[sixV k n a m c b s a2 m2 c2, .int .i64 deep] w fun e w' => e = .returned (valSix 1 (if (bits .and .u64 b 1 == 1) then 1 else 0) ⟨#[]⟩ (.slice none 0 0)) ∧ Below w.heap.size w w' := by
  obtain ⟨hm, hq0, hq9⟩ := kind_mod k hk
  have hcs := ckind_cases hq (by decide) (by decide)
  clear hq
  obtain ⟨q, hqq⟩ : ∃ q, q = k % 10 := ⟨_, rfl⟩
  rw [← hqq] at hm hq0 hq9 hcs
  obtain ⟨w1, hw1⟩ : ∃ w1, w1 = (w.alloc (sixO k n a m c b s a2 m2 c2)).alloc (sixO 0 false none 0 0 0 ⟨#[]⟩ none 0 0) := ⟨_, rfl⟩
  obtain ⟨r0, r1, hb1, _⟩ := two_new w (sixO k n a m c b s a2 m2 c2) (sixO 0 false none 0 0 0 ⟨#[]⟩ none 0 0)
  rw [← hw1] at r0 r1 hb1
  have HW1 := Lib.hid hw1; have HB1 := Lib.hid hb1; have HR0 := Lib.hid r0; have HR1 := Lib.hid r1
  obtain ⟨x0, x1, x2, x3, x4, x5⟩ := box6 r0 (Below.refl _ _)
  obtain ⟨z0, z1, z2, z3, z4, z5⟩ := box6 r1 (Below.refl _ _)
  have fz : ∀ i, w1.frozen? ⟨w.heap.size + 1, i, none⟩ = false := six_frozen r1
  clear hw1 r0 r1 hb1 hqq hk
  have HBV := Lib.hid (fun W : World => BoolVal_any (bits .and .u64 b 1 == 1) W)
  obtain ⟨tv, htv⟩ : ∃ tv : Int, tv = (if (bits .and .u64 b 1 == 1) then 1 else 0) := ⟨_, rfl⟩
  rw [← htv] at HBV ⊢
  clear htv
  rcases hcs with ⟨hd0, rfl⟩ | ⟨rfl, rfl, _⟩ | ⟨rfl, rfl⟩
  · have hdd : ¬ ((deep : Int) ≤ 0) := by omega
    go_enter Tryz.func23, Tryz.ntmps23
    go_upto_if 18 with fail
    rw [← HW1.out]
    go_wp2_with fail
    refine (HBV.out _).mono ?_
    rintro e w2 ⟨rfl, hb2⟩
    obtain ⟨y0, y1, y2, y3, y4, y5⟩ := box6 HR1.out hb2
    have HR2 := Lib.hid ((hb2.block _ (Array.getElem?_eq_some_iff.1 HR1.out).1).trans HR1.out)
    have fy : ∀ i, w2.frozen? ⟨w.heap.size + 1, i, none⟩ = false := six_frozen HR2.out
    have HB2 := Lib.hid (HB1.out.trans (hb2.mono HB1.out.size))
    clear hb2 fz
    go_wp2
    obtain ⟨e0, e1, e2, e3, e4, e5⟩ := box6 (put6_heap HR2.out) (Below.refl _ (put6 w2 (w.heap.size + 1) (.int .i64 1) (.bool false) (.slice none 0 0) (.int .u64 tv) (.string ⟨#[]⟩) (.slice none 0 0)))
    unfold put6 at e0 e1 e2 e3 e4 e5
    exact bodyPost_ret (v := sixV 1 false none 0 0 tv ⟨#[]⟩ none 0 0) (by simp [results, Tryz.results23, go_sem, e0, e1, e2, e3, e4, e5]) rfl ⟨rfl, Chg.below HB2.out HB2.out.size (put6_chg _ _ _ _ _ _ _ _) (by omega)⟩
  all_goals
    go_enter Tryz.func23, Tryz.ntmps23
    go_upto_if 18 with fail
    rw [← HW1.out]
    go_wp2_with fail
    refine (HBV.out _).mono ?_
    rintro e w2 ⟨rfl, hb2⟩
    obtain ⟨y0, y1, y2, y3, y4, y5⟩ := box6 HR1.out hb2
    have HR2 := Lib.hid ((hb2.block _ (Array.getElem?_eq_some_iff.1 HR1.out).1).trans HR1.out)
    have fy : ∀ i, w2.frozen? ⟨w.heap.size + 1, i, none⟩ = false := six_frozen HR2.out
    have HB2 := Lib.hid (HB1.out.trans (hb2.mono HB1.out.size))
    clear hb2 fz
    go_wp2
    obtain ⟨e0, e1, e2, e3, e4, e5⟩ := box6 (put6_heap HR2.out) (Below.refl _ (put6 w2 (w.heap.size + 1) (.int .i64 1) (.bool false) (.slice none 0 0) (.int .u64 tv) (.string ⟨#[]⟩) (.slice none 0 0)))
    unfold put6 at e0 e1 e2 e3 e4 e5
    exact bodyPost_ret (v := sixV 1 false none 0 0 tv ⟨#[]⟩ none 0 0) (by simp [results, Tryz.results23, go_sem, e0, e1, e2, e3, e4, e5]) rfl ⟨rfl, Chg.below HB2.out HB2.out.size (put6_chg _ _ _ _ _ _ _ _) (by omega)⟩

set_option maxRecDepth 100000 in
set_option maxHeartbeats 4000000 in
theorem Clean_flt (k n a m c b s a2 m2 c2) (deep : Nat) (hd : deep ≤ 100) (hk : -9223372036854775808 ≤ k ∧ k ≤ 9223372036854775807) (hq : ckind k deep = 3) (w : World) :
    Calls Tryz.prog 23 #[sixV k n a m c b s a2 m2 c2, .int .i64 deep] w fun e w' => e = .returned (valSix 3 b ⟨#[]⟩ (.slice none 0 0)) ∧ Below w.heap.size w w' := by
  obtain ⟨hm, hq0, hq9⟩ := kind_mod k hk
  have hcs := ckind_cases hq (by decide) (by decide)
  clear hq
  obtain ⟨q, hqq⟩ : ∃ q, q = k % 10 := ⟨_, rfl⟩
  rw [← hqq] at hm hq0 hq9 hcs
  obtain ⟨w1, hw1⟩ : ∃ w1, w1 = (w.alloc (sixO k n a m c b s a2 m2 c2)).alloc (sixO 0 false none 0 0 0 ⟨#[]⟩ none 0 0) := ⟨_, rfl⟩
  obtain ⟨r0, r1, hb1, _⟩ := two_new w (sixO k n a m c b s a2 m2 c2) (sixO 0 false none 0 0 0 ⟨#[]⟩ none 0 0)
  rw [← hw1] at r0 r1 hb1
  have HW1 := Lib.hid hw1; have HB1 := Lib.hid hb1; have HR0 := Lib.hid r0; have HR1 := Lib.hid r1
  obtain ⟨x0, x1, x2, x3, x4, x5⟩ := box6 r0 (Below.refl _ _)
  obtain ⟨z0, z1, z2, z3, z4, z5⟩ := box6 r1 (Below.refl _ _)
  have fz : ∀ i, w1.frozen? ⟨w.heap.size + 1, i, none⟩ = false := six_frozen r1
  clear hw1 r0 r1 hb1 hqq hk
  rcases hcs with ⟨hd0, rfl⟩ | ⟨rfl, rfl, _⟩ | ⟨rfl, rfl⟩
  · have hdd : ¬ ((deep : Int) ≤ 0) := by omega
    go_enter Tryz.func23, Tryz.ntmps23
    go_upto_if 18 with fail
    rw [← HW1.out]
    go_wp2
    obtain ⟨e0, e1, e2, e3, e4, e5⟩ := box6 (put6_heap HR1.out) (Below.refl _ (put6 w1 (w.heap.size + 1) (.int .i64 3) (.bool false) (.slice none 0 0) (.int .u64 b) (.string ⟨#[]⟩) (.slice none 0 0)))
    unfold put6 at e0 e1 e2 e3 e4 e5
    exact bodyPost_ret (v := sixV 3 false none 0 0 b ⟨#[]⟩ none 0 0) (by simp [results, Tryz.results23, go_sem, e0, e1, e2, e3, e4, e5]) rfl ⟨rfl, Chg.below HB1.out HB1.out.size (put6_chg _ _ _ _ _ _ _ _) (by omega)⟩
  all_goals
    go_enter Tryz.func23, Tryz.ntmps23
    go_upto_if 18 with fail
    rw [← HW1.out]
    go_wp2
    obtain ⟨e0, e1, e2, e3, e4, e5⟩ := box6 (put6_heap HR1.out) (Below.refl _ (put6 w1 (w.heap.size + 1) (.int .i64 3) (.bool false) (.slice none 0 0) (.int .u64 b) (.string ⟨#[]⟩) (.slice none 0 0)))
    unfold put6 at e0 e1 e2 e3 e4 e5
    exact bodyPost_ret (v := sixV 3 false none 0 0 b ⟨#[]⟩ none 0 0) (by simp [results, Tryz.results23, go_sem, e0, e1, e2, e3, e4, e5]) rfl ⟨rfl, Chg.below HB1.out HB1.out.size (put6_chg _ _ _ _ _ _ _ _) (by omega)⟩

set_option maxRecDepth 100000 in
set_option maxHeartbeats 4000000 in
theorem Clean_str (k n a m c b s a2 m2 c2) (deep : Nat) (hd : deep ≤ 100) (hk : -9223372036854775808 ≤ k ∧ k ≤ 9223372036854775807) (hq : ckind k deep = 4) (hs : s.size ≤ 9223372036854775807) (w : World) :
    Calls Tryz.prog 23 #[sixV k n a m c b s a2 m2 c2, .int .i64 deep] w fun e w' => e = .returned (valSix 4 0 (s.extract 0 (min s.size 60)) (.slice none 0 0)) ∧ Below w.heap.size w w' := by
  obtain ⟨hm, hq0, hq9⟩ := kind_mod k hk
  have hcs := ckind_cases hq (by decide) (by decide)
  clear hq
  obtain ⟨q, hqq⟩ : ∃ q, q = k % 10 := ⟨_, rfl⟩
  rw [← hqq] at hm hq0 hq9 hcs
  obtain ⟨w1, hw1⟩ : ∃ w1, w1 = (w.alloc (sixO k n a m c b s a2 m2 c2)).alloc (sixO 0 false none 0 0 0 ⟨#[]⟩ none 0 0) := ⟨_, rfl⟩
  obtain ⟨r0, r1, hb1, _⟩ := two_new w (sixO k n a m c b s a2 m2 c2) (sixO 0 false none 0 0 0 ⟨#[]⟩ none 0 0)
  rw [← hw1] at r0 r1 hb1
  have HW1 := Lib.hid hw1; have HB1 := Lib.hid hb1; have HR0 := Lib.hid r0; have HR1 := Lib.hid r1
  obtain ⟨x0, x1, x2, x3, x4, x5⟩ := box6 r0 (Below.refl _ _)
  obtain ⟨z0, z1, z2, z3, z4, z5⟩ := box6 r1 (Below.refl _ _)
  have fz : ∀ i, w1.frozen? ⟨w.heap.size + 1, i, none⟩ = false := six_frozen r1
  clear hw1 r0 r1 hb1 hqq hk
  have hmin : min (s.size : Int) 60 = ((min s.size 60 : Nat) : Int) := by omega
  have hml : min s.size 60 ≤ s.size := by omega
  obtain ⟨z, hz⟩ : ∃ z, z = min s.size 60 := ⟨_, rfl⟩
  rw [← hz] at hmin hml ⊢
  have hzi : (z : Int) ≤ (s.size : Int) := by omega
  clear hz
  rcases hcs with ⟨hd0, rfl⟩ | ⟨rfl, rfl, _⟩ | ⟨rfl, h6⟩
  · have hdd : ¬ ((deep : Int) ≤ 0) := by omega
    go_enter Tryz.func23, Tryz.ntmps23
    go_upto_if 18 with fail
    rw [← HW1.out]
    go_wp2
    obtain ⟨e0, e1, e2, e3, e4, e5⟩ := box6 (put6_heap HR1.out) (Below.refl _ (put6 w1 (w.heap.size + 1) (.int .i64 4) (.bool false) (.slice none 0 0) (.int .u64 0) (.string (s.extract 0 z)) (.slice none 0 0)))
    unfold put6 at e0 e1 e2 e3 e4 e5
    exact bodyPost_ret (v := sixV 4 false none 0 0 0 (s.extract 0 z) none 0 0) (by simp [results, Tryz.results23, go_sem, e0, e1, e2, e3, e4, e5]) rfl ⟨rfl, Chg.below HB1.out HB1.out.size (put6_chg _ _ _ _ _ _ _ _) (by omega)⟩
  · skip
    go_enter Tryz.func23, Tryz.ntmps23
    go_upto_if 18 with fail
    rw [← HW1.out]
    go_wp2
    obtain ⟨e0, e1, e2, e3, e4, e5⟩ := box6 (put6_heap HR1.out) (Below.refl _ (put6 w1 (w.heap.size + 1) (.int .i64 4) (.bool false) (.slice none 0 0) (.int .u64 0) (.string (s.extract 0 z)) (.slice none 0 0)))
    unfold put6 at e0 e1 e2 e3 e4 e5
    exact bodyPost_ret (v := sixV 4 false none 0 0 0 (s.extract 0 z) none 0 0) (by simp [results, Tryz.results23, go_sem, e0, e1, e2, e3, e4, e5]) rfl ⟨rfl, Chg.below HB1.out HB1.out.size (put6_chg _ _ _ _ _ _ _ _) (by omega)⟩
  · omega

set_option maxRecDepth 100000 in
set_option maxHeartbeats 4000000 in
theorem Clean_byt (k n a m c b s a2 m2 c2) (deep : Nat) (hd : deep ≤ 100) (hk : -9223372036854775808 ≤ k ∧ k ≤ 9223372036854775807) (hq : ckind k deep = 5) (hs : s.size ≤ 9223372036854775807) (w : World) :
    Calls Tryz.prog 23 #[sixV k n a m c b s a2 m2 c2, .int .i64 deep] w fun e w' => e = .returned (valSix 5 0 (s.extract 0 (min s.size 60)) (.slice none 0 0)) ∧ Below w.heap.size w w' := by
  obtain ⟨hm, hq0, hq9⟩ := kind_mod k hk
  have hcs := ckind_cases hq (by decide) (by decide)
  clear hq
  obtain ⟨q, hqq⟩ : ∃ q, q = k % 10 := ⟨_, rfl⟩
  rw [← hqq] at hm hq0 hq9 hcs
  obtain ⟨w1, hw1⟩ : ∃ w1, w1 = (w.alloc (sixO k n a m c b s a2 m2 c2)).alloc (sixO 0 false none 0 0 0 ⟨#[]⟩ none 0 0) := ⟨_, rfl⟩
  obtain ⟨r0, r1, hb1, _⟩ := two_new w (sixO k n a m c b s a2 m2 c2) (sixO 0 false none 0 0 0 ⟨#[]⟩ none 0 0)
  rw [← hw1] at r0 r1 hb1
  have HW1 := Lib.hid hw1; have HB1 := Lib.hid hb1; have HR0 := Lib.hid r0; have HR1 := Lib.hid r1
  obtain ⟨x0, x1, x2, x3, x4, x5⟩ := box6 r0 (Below.refl _ _)
  obtain ⟨z0, z1, z2, z3, z4, z5⟩ := box6 r1 (Below.refl _ _)
  have fz : ∀ i, w1.frozen? ⟨w.heap.size + 1, i, none⟩ = false := six_frozen r1
  clear hw1 r0 r1 hb1 hqq hk
  have hmin : min (s.size : Int) 60 = ((min s.size 60 : Nat) : Int) := by omega
  have hml : min s.size 60 ≤ s.size := by omega
  obtain ⟨z, hz⟩ : ∃ z, z = min s.size 60 := ⟨_, rfl⟩
  rw [← hz] at hmin hml ⊢
  have hzi : (z : Int) ≤ (s.size : Int) := by omega
  clear hz
  rcases hcs with ⟨hd0, rfl⟩ | ⟨rfl, rfl, _⟩ | ⟨rfl, h6⟩
  · have hdd : ¬ ((deep : Int) ≤ 0) := by omega
    go_enter Tryz.func23, Tryz.ntmps23
    go_upto_if 18 with fail
    rw [← HW1.out]
    go_wp2
    obtain ⟨e0, e1, e2, e3, e4, e5⟩ := box6 (put6_heap HR1.out) (Below.refl _ (put6 w1 (w.heap.size + 1) (.int .i64 5) (.bool false) (.slice none 0 0) (.int .u64 0) (.string (s.extract 0 z)) (.slice none 0 0)))
    unfold put6 at e0 e1 e2 e3 e4 e5
    exact bodyPost_ret (v := sixV 5 false none 0 0 0 (s.extract 0 z) none 0 0) (by simp [results, Tryz.results23, go_sem, e0, e1, e2, e3, e4, e5]) rfl ⟨rfl, Chg.below HB1.out HB1.out.size (put6_chg _ _ _ _ _ _ _ _) (by omega)⟩
  · skip
    go_enter Tryz.func23, Tryz.ntmps23
    go_upto_if 18 with fail
    rw [← HW1.out]
    go_wp2
    obtain ⟨e0, e1, e2, e3, e4, e5⟩ := box6 (put6_heap HR1.out) (Below.refl _ (put6 w1 (w.heap.size + 1) (.int .i64 5) (.bool false) (.slice none 0 0) (.int .u64 0) (.string (s.extract 0 z)) (.slice none 0 0)))
    unfold put6 at e0 e1 e2 e3 e4 e5
    exact bodyPost_ret (v := sixV 5 false none 0 0 0 (s.extract 0 z) none 0 0) (by simp [results, Tryz.results23, go_sem, e0, e1, e2, e3, e4, e5]) rfl ⟨rfl, Chg.below HB1.out HB1.out.size (put6_chg _ _ _ _ _ _ _ _) (by omega)⟩
  · omega
end Go.Proofs.YtpcleebnfgnhdaaGreatDoor
