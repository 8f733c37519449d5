import Derived.Test.YtpcleebnfgnhdaaGreatDoorGz39
/- Walk: spec.CleanGraph. -/
set_option linter.unusedVariables false
set_option linter.unusedSimpArgs false
namespace Go.Proofs.YtpcleebnfgnhdaaGreatDoor
open Go.RowKit
open Num

set_option maxRecDepth 100000 in
set_option maxHeartbeats 8000000 in
theorem CleanGraph_of (gs : Value) (root : Int) (w : World) (h : RawNds w gs)
    (hCN : ∀ (k : Int) (n : Bool) (a : Option Addr) (m c : Nat) (b : Int) (s : ByteArray) (a2 : Option Addr) (m2 c2 : Nat) (gs : Value) (root : Int) (N : List Nd) (S : Nat → Prop) (i nn : Nat) (w : World), RawNd w (sixV k n a m c b s a2 m2 c2) → GrB w S gs N → (∀ b, S b → b < w.heap.size) → N.length ≤ 1000 → i < nn → nn ≤ 1000 →
      (∀ x ∈ N, x.ks.length ≤ 8 ∧ (∀ k ∈ x.ks, k ≤ 1000000) ∧ (x.T.kind < 6 → x.ks = [])) → Calls Tryz.prog 17 #[sixV k n a m c b s a2 m2 c2, .agg #[gs, .int .i64 root], .int .i64 i, .int .i64 nn] w (NodeIs N i nn w)) :
    Calls Tryz.prog 6 #[.agg #[gs, .int .i64 root]] w (ClgIs w) := by
  have hraw := h
  obtain ⟨a, m, c, rfl, hm, hmc, hk⟩ := h
  clear hk
  obtain ⟨w2, hw2⟩ : ∃ w2, w2 = ((w.alloc (.cells #[.slice a m c, .int .i64 root] 24)).alloc (.cells #[.slice none 0 0, .int .i64 0] 24)).alloc (.cells #[.slice none 0 0, .int .i64 0] 24) := ⟨_, rfl⟩
  have hb2 : Below w.heap.size w w2 := by rw [hw2]; exact (((Below.refl _ _).alloc (Nat.le_refl _) _).alloc (by simp) _).alloc (by simp; omega) _
  have hs2 : w2.heap.size = w.heap.size + 3 := by rw [hw2]; simp
  have r0 : w2.heap[w.heap.size]? = some (.cells #[.slice a m c, .int .i64 root] 24 (0, 0)) := by rw [hw2]; exact heap3_0 _ _ _ _
  have r1 : w2.heap[w.heap.size + 1]? = some (.cells #[.slice none 0 0, .int .i64 0] 24 (0, 0)) := by rw [hw2]; exact heap3_1 _ _ _ _
  have r2 : w2.heap[w.heap.size + 1 + 1]? = some (.cells #[.slice none 0 0, .int .i64 0] 24 (0, 0)) := by rw [hw2]; exact heap3_2 _ _ _ _
  have HR1 := Lib.hid r1; have HR2 := Lib.hid r2; have HW2 := Lib.hid hw2; have HB2 := Lib.hid hb2; have HS2 := Lib.hid hs2; have HR0 := Lib.hid r0
  have z0 : w2.cell? ⟨w.heap.size, 0, none⟩ = some (.slice a m c) := (cell_of_row _ _ 0 _ _ (0, 0) r0).trans rfl
  have z1 : w2.cell? ⟨w.heap.size, 1, none⟩ = some (.int .i64 root) := (cell_of_row _ _ 1 _ _ (0, 0) r0).trans rfl
  have HCN := Lib.hid hCN
  by_cases h0 : m = 0
  · subst h0
    have hmin : min (0 : Int) 12 = 0 := by decide
    have y0 : w2.cell? ⟨w.heap.size + 1, 0, none⟩ = some (.slice none 0 0) := (cell_of_row _ _ 0 _ _ (0, 0) r1).trans rfl
    have y1 : w2.cell? ⟨w.heap.size + 1, 1, none⟩ = some (.int .i64 0) := (cell_of_row _ _ 1 _ _ (0, 0) r1).trans rfl
    clear hraw hCN HCN hw2 hb2 hs2 r0 r1 r2
    go_enter Tryz.func6, Tryz.ntmps6
    go_wp2
    obtain ⟨wF, hwF⟩ : ∃ wF, wF = (((w.alloc (.cells #[.slice a 0 c, .int .i64 root] 24)).alloc (.cells #[.slice (some ⟨w.heap.size + 1 + 1 + 1, 0, none⟩) 1 1, .int .i64 0] 24)).alloc (.cells #[.slice none 0 0, .int .i64 0] 24)).alloc (.cells #[.int .i64 6, .bool false, .slice none 0 0, .int .u64 0, .string ⟨#[]⟩, .slice none 0 0] 48) := ⟨_, rfl⟩
    have hbF : Below w.heap.size w wF := by rw [hwF]; exact ((((Below.refl _ _).alloc (Nat.le_refl _) _).alloc (by simp) _).alloc (by simp; omega) _).alloc (by simp; omega) _
    have hsF : wF.heap.size = w.heap.size + 4 := by rw [hwF]; simp
    have f1 : wF.heap[w.heap.size + 1]? = some (.cells #[.slice (some ⟨w.heap.size + 1 + 1 + 1, 0, none⟩) 1 1, .int .i64 0] 24 (0, 0)) := by
      rw [hwF]
      exact (Below.heap_alloc _ _ _ (by simp)).trans (heap3_1 _ _ _ _)
    have f3 : wF.heap[w.heap.size + 1 + 1 + 1]? = some (.cells #[.int .i64 6, .bool false, .slice none 0 0, .int .u64 0, .string ⟨#[]⟩, .slice none 0 0] 48 (0, 0)) := by
      rw [hwF]
      have := heap_alloc_new (((w.alloc (.cells #[.slice a 0 c, .int .i64 root] 24)).alloc (.cells #[.slice (some ⟨w.heap.size + 1 + 1 + 1, 0, none⟩) 1 1, .int .i64 0] 24)).alloc (.cells #[.slice none 0 0, .int .i64 0] 24)) (.cells #[.int .i64 6, .bool false, .slice none 0 0, .int .u64 0, .string ⟨#[]⟩, .slice none 0 0] 48)
      simpa using this
    have e0 : wF.cell? ⟨w.heap.size + 1, 0, none⟩ = some (.slice (some ⟨w.heap.size + 1 + 1 + 1, 0, none⟩) 1 1) := (cell_of_row _ _ 0 _ _ (0, 0) f1).trans rfl
    have e1 : wF.cell? ⟨w.heap.size + 1, 1, none⟩ = some (.int .i64 0) := (cell_of_row _ _ 1 _ _ (0, 0) f1).trans rfl
    rw [← hwF]
    exact bodyPost_ret (v := .agg #[.slice (some ⟨w.heap.size + 1 + 1 + 1, 0, none⟩) 1 1, .int .i64 0]) (by simp [results, Tryz.results6, go_sem, e0, e1]) rfl ⟨_, [nd0], 0, rfl, nd0_at ⟨by omega, by omega⟩ f3, by simp, by simp, nd0_ok, hbF⟩
  · obtain ⟨n, hn⟩ : ∃ n, n = min m 12 := ⟨_, rfl⟩
    have hmin : min (m : Int) 12 = (n : Int) := by omega
    have hn0 : ((n : Int) == 0) = false := by simp; omega
    have hnp : 0 < n := by omega
    have hn12 : n ≤ 12 := by omega
    have hnm : n ≤ m := by omega
    have HRAW := Lib.hid hraw
    clear hraw hCN hw2 hb2 hs2 r0 r1 r2 hn
    go_enter Tryz.func6, Tryz.ntmps6
    go_wp2_with fail
    rw [← HW2.out]
    go_wp2_with fail
    refine (turn_any root n w2 hnp (by omega)).mono ?_
    rintro e w5 ⟨rt, rfl, hrt, hw5⟩
    rw [hw5]
    clear hw5 w5
    have y1 : w2.cell? ⟨w.heap.size + 1 + 1, 1, none⟩ = some (.int .i64 0) := (cell_of_row _ _ 1 _ _ (0, 0) HR2.out).trans rfl
    have fz : ∀ i, w2.frozen? ⟨w.heap.size + 1 + 1, i, none⟩ = false := six_frozen HR2.out
    have HRT := Lib.hid hrt
    clear hrt
    go_wp2
    obtain ⟨w3, hw3⟩ : ∃ w3, w3 = w2.setCell ⟨w.heap.size + 1 + 1, 1, none⟩ (.int .i64 rt) := ⟨_, rfl⟩
    rw [← hw3]
    have h3c : Chg (w.heap.size + 1 + 1) w2 w3 := by rw [hw3]; exact (Chg.refl _ _).set 1 _
    have h3s : w3.heap.size = w.heap.size + 3 := by rw [hw3]; simp [World.setCell]; exact HS2.out
    have h3r : w3.heap[w.heap.size + 1 + 1]? = some (.cells #[.slice none 0 0, .int .i64 rt] 24 (0, 0)) := by rw [hw3]; exact (set1 (i := 1) (x := .int .i64 rt) HR2.out).trans rfl
    have H3C := Lib.hid h3c; have H3S := Lib.hid h3s; have H3R := Lib.hid h3r
    clear hw3 h3c h3s h3r y1 fz z0 z1
    go_loopw [5] (fun s wr => ∃ i : Nat, i ≤ n ∧ s = .int .i64 i ∧ ClgUp w3 (w.heap.size + 1 + 1) rt n i wr) (fun s _ => n - (intOf s).toNat)
    case atStart => exact ⟨0, by omega, rfl, .slice none 0 0, [], H3R.out, OwnN.nil _ _ _, rfl, fun i x hx => by simp at hx, Chg.refl _ _⟩
    case round =>
      obtain ⟨i, hi, rfl, ks, es, hrow, hown, hel, hok, hch⟩ := hrel
      have hb3 : Below w.heap.size w w3 := Chg.below HB2.out (by have := HS2.out; omega) H3C.out (by omega)
      have hbr : Below w.heap.size w wr := Chg.below hb3 (by have := H3S.out; omega) hch (by omega)
      have w20 : ∀ W, Chg (w.heap.size + 1 + 1) w3 W → W.cell? ⟨w.heap.size, 0, none⟩ = some (.slice a m c) := fun W hc => by
        have h1 : W.heap[w.heap.size]? = w2.heap[w.heap.size]? := (hc.block _ (by have := H3S.out; omega) (by omega)).trans (H3C.out.block _ (by have := HS2.out; omega) (by omega))
        exact (cell_of_row _ _ 0 _ _ (0, 0) (h1.trans HR0.out)).trans rfl
      obtain ⟨ka, kc, hks⟩ := hown.shape
      rw [hel] at hks
      subst hks
      have c0 : wr.cell? ⟨w.heap.size + 1 + 1, 0, none⟩ = some (.slice ka i kc) := (cell_of_row _ _ 0 _ _ (0, 0) hrow).trans rfl
      have c1 : wr.cell? ⟨w.heap.size + 1 + 1, 1, none⟩ = some (.int .i64 rt) := (cell_of_row _ _ 1 _ _ (0, 0) hrow).trans rfl
      have x0 := w20 wr hch
      by_cases he : i < n
      · have hlti : (i : Int) < (n : Int) := by omega
        have hs3 := H3S.out
        have hchs := hch.size
        have hm2 : (i : Int) < (m : Int) := by omega
        obtain ⟨g, p, k1, n1, a1, m1, c1', b1, s1, d1, o1, f1, ea, hmc', _, hg, hcells, hrn⟩ := (HRAW.out.below hbr).node i (by omega)
        subst ea
        have HROW := Lib.hid hrow; have HOWN := Lib.hid hown; have HEL := Lib.hid hel; have HOK := Lib.hid hok; have HCH := Lib.hid hch; have HBR := Lib.hid hbr; have HE := Lib.hid he
        have HZ := Lib.hid (show ∀ W, Below wr.heap.size wr W → W.cell? ⟨w.heap.size + 1 + 1, 0, none⟩ = some (.slice ka i kc) ∧ W.cell? ⟨w.heap.size + 1 + 1, 1, none⟩ = some (.int .i64 rt) ∧ W.cell? ⟨w.heap.size, 0, none⟩ = some (.slice (some ⟨g, p, none⟩) m c) ∧ W.cell? ⟨g, p + i * 6, none⟩ = some (.int .i64 k1) ∧ W.cell? ⟨g, p + i * 6 + 1, none⟩ = some (.bool n1) ∧ W.cell? ⟨g, p + i * 6 + 2, none⟩ = some (.slice a1 m1 c1') ∧ W.cell? ⟨g, p + i * 6 + 3, none⟩ = some (.int .u64 b1) ∧ W.cell? ⟨g, p + i * 6 + 4, none⟩ = some (.string s1) ∧ W.cell? ⟨g, p + i * 6 + 5, none⟩ = some (.slice d1 o1 f1) from fun W hb =>
          ⟨(hb.cell (p := ⟨w.heap.size + 1 + 1, 0, none⟩) (by dsimp only; omega)).trans c0, (hb.cell (p := ⟨w.heap.size + 1 + 1, 1, none⟩) (by dsimp only; omega)).trans c1, (hb.cell (p := ⟨w.heap.size, 0, none⟩) (by dsimp only; omega)).trans x0, hcells.below hb hg⟩)
        have HC := Lib.hid (show ∀ W, Below wr.heap.size wr W → Calls Tryz.prog 17 #[sixV k1 n1 a1 m1 c1' b1 s1 d1 o1 f1, .agg #[.slice ka i kc, .int .i64 rt], .int .i64 i, .int .i64 n] W (NodeIs (es.map (·.2)) i n W) from fun W hb => by
          have hgr := (hown.there.graph (T' := fun b => w3.heap.size ≤ b ∧ b < wr.heap.size) (fun b h => h) (fun b h1 h2 => ⟨h1, h2⟩)).below hb
          exact HCN.out k1 n1 a1 m1 c1' b1 s1 d1 o1 f1 _ rt _ _ i n W (hrn.below hb) hgr (fun b h => Nat.lt_of_lt_of_le h.2 hb.size) (by rw [List.length_map]; omega) he (by omega) (hok.nodes (by omega)))
        obtain ⟨q0, q1, q2, q3, q4, q5⟩ := hcells
        clear hrow hown hel hok hch hbr hb3 w20 hrn hg hmc' hchs hs3 he hi
        go_wp2
        go_region_law (first | (go_simp; go_at_call 17; (with_reducible refine (HC.out _ (by repeat (first | with_reducible exact Below.refl _ _ | with_reducible refine Below.drew ?_ | with_reducible refine below_alx ?_ _))).mono ?_); rintro e w5 ⟨x, v, rfl, hnd, hok5, hb5⟩; have HND := Lib.hid hnd; have HOK5 := Lib.hid hok5; obtain ⟨vn, va, vm, vc, vb, vs, v2, hve, _, hv2⟩ := hnd; obtain ⟨va2, vc2, hv2e⟩ := hv2.shape; subst hv2e; subst hve; have HBC := Lib.hid (below_step (w := wr) (by repeat (first | with_reducible exact Below.refl _ _ | with_reducible refine Below.drew ?_ | with_reducible refine below_alx ?_ _)) hb5 (Below.refl _ _)); have c05 := (HZ.out w5 HBC.out).1; have c06 := fun X => (HZ.out (w5.alloc X) (below_alx HBC.out X)).1; clear hb5 hok5 hv2) | (refine step_append_node (n := (.agg #[.int .i64 x.T.kind, .bool vn, .slice va vm vc, .int .u64 vb, .string vs, .slice va2 x.ks.length vc2], x)) rfl (.tmp 26) (.tmp 36) rfl rfl (HOWN.out.below (below_alx HBC.out _)) (by have := HEL.out; have := HE.out; omega) (Nat.le_trans HCH.out.size (below_alx HBC.out _).size) w5.heap.size 1 rfl (fun j u hj => by rw [cell_of_row _ _ j _ _ (0, 0) (heap_alloc_new w5 _)]; simpa [six] using hj) (fun u hu => by simp [six] at hu; rcases hu with rfl | rfl | rfl | rfl | rfl | rfl <;> rfl) (entN_new (fun b hb => Nat.le_trans HCH.out.size hb) HOWN.out rfl HND.out (below_al0 w5 _)) ?_; intro v' w7 HO7 HG7; have hw7r := (HG7.out.block (w.heap.size + 1 + 1) (by have := HCH.out.size; have := HBC.out.size; have := H3S.out; rw [World.size_alloc]; omega) (fun e => by have := (HOWN.out.lt _ e.symm).1; have := H3S.out; omega)).trans (((below_alx HBC.out _).block (w.heap.size + 1 + 1) (by have := HCH.out.size; have := H3S.out; omega)).trans HROW.out); have HW7 := Lib.hid hw7r; have fz7 : ∀ i, w7.frozen? ⟨w.heap.size + 1 + 1, i, none⟩ = false := six_frozen hw7r; have c70 : w7.cell? ⟨w.heap.size + 1 + 1, 0, none⟩ = some (.slice ka i kc) := (cell_of_row _ _ 0 _ _ (0, 0) hw7r).trans rfl; clear hw7r; obtain ⟨va', vc', hv'⟩ := HO7.out.shape; rw [List.length_append, List.length_singleton] at hv'; subst hv'))
        all_goals (
          go_wp2
          go_round
          case rel => exact ⟨i + 1, by have := HE.out; omega, by go_num, by with_reducible exact clg_done HROW.out HOWN.out HEL.out HOK.out HCH.out HO7.out HG7.out HOK5.out (by have := H3S.out; omega) (by repeat (first | with_reducible exact HBC.out | with_reducible refine Below.drew ?_ | with_reducible refine below_alx ?_ _))⟩
          case measure => simp [intOf]; omega)
      · have hge : ¬ ((i : Int) < (n : Int)) := by omega
        have hin : i = n := by omega
        have hs3 := H3S.out
        have y0 : wr.cell? ⟨w.heap.size + 1, 0, none⟩ = some (.slice none 0 0) := by
          have h1 : wr.heap[w.heap.size + 1]? = w2.heap[w.heap.size + 1]? := (hch.block _ (by omega) (by omega)).trans (H3C.out.block _ (by have := HS2.out; omega) (by omega))
          exact (cell_of_row _ _ 0 _ _ (0, 0) (h1.trans HR1.out)).trans rfl
        have y1 : wr.cell? ⟨w.heap.size + 1, 1, none⟩ = some (.int .i64 0) := by
          have h1 : wr.heap[w.heap.size + 1]? = w2.heap[w.heap.size + 1]? := (hch.block _ (by omega) (by omega)).trans (H3C.out.block _ (by have := HS2.out; omega) (by omega))
          exact (cell_of_row _ _ 1 _ _ (0, 0) (h1.trans HR1.out)).trans rfl
        have r1 : wr.heap[w.heap.size + 1]? = some (.cells #[.slice none 0 0, .int .i64 0] 24 (0, 0)) := ((hch.block _ (by omega) (by omega)).trans (H3C.out.block _ (by have := HS2.out; omega) (by omega))).trans HR1.out
        have fz : ∀ i, wr.frozen? ⟨w.heap.size + 1, i, none⟩ = false := six_frozen r1
        have HOWN := Lib.hid hown; have HEL := Lib.hid hel; have HOK := Lib.hid hok; have HBR := Lib.hid hbr; have HR1' := Lib.hid r1; have HIN := Lib.hid hin; have HCHS := Lib.hid hch.size
        clear hown hel hok hbr hrow hch hb3 r1 hin w20 he hi
        go_wp2
        obtain ⟨wF, hwF⟩ : ∃ wF, wF = (wr.setCell ⟨w.heap.size + 1, 0, none⟩ (.slice ka i kc)).setCell ⟨w.heap.size + 1, 1, none⟩ (.int .i64 rt) := ⟨_, rfl⟩
        rw [← hwF]
        have hcF : Chg (w.heap.size + 1) wr wF := by rw [hwF]; exact ((Chg.refl _ _).set 0 _).set 1 _
        have f1 : wF.heap[w.heap.size + 1]? = some (.cells #[.slice ka i kc, .int .i64 rt] 24 (0, 0)) := by
          rw [hwF]
          exact (set1 (i := 1) (x := .int .i64 rt) ((set1 (i := 0) (x := .slice ka i kc) HR1'.out).trans rfl)).trans rfl
        have e0 : wF.cell? ⟨w.heap.size + 1, 0, none⟩ = some (.slice ka i kc) := (cell_of_row _ _ 0 _ _ (0, 0) f1).trans rfl
        have e1 : wF.cell? ⟨w.heap.size + 1, 1, none⟩ = some (.int .i64 rt) := (cell_of_row _ _ 1 _ _ (0, 0) f1).trans rfl
        have hgr := ((HOWN.out.chg hcF (by omega) (by omega)).there).graph (T' := fun b => w.heap.size ≤ b ∧ b < wF.heap.size) (fun b h => ⟨by omega, h.2⟩) (fun b h1 h2 => ⟨by omega, h2⟩)
        have hlen : (es.map (·.2)).length = n := by rw [List.length_map, HEL.out, HIN.out]
        exact bodyPost_ret (v := .agg #[.slice ka i kc, .int .i64 rt]) (by simp [results, Tryz.results6, go_sem, e0, e1]) rfl ⟨_, es.map (·.2), rt, rfl, hgr, by rw [hlen]; exact HRT.out, by omega, by rw [hlen]; exact HOK.out, Chg.below HBR.out HBR.out.size hcF (by omega)⟩
end Go.Proofs.YtpcleebnfgnhdaaGreatDoor
