/- Walks: spec.Int.Mul. -/
import Derived.Test.YtgohhebffcldeaaGreatDoorFin2
import Derived.Test.YtgohhebffcldeaaGreatDoorMulP
set_option linter.unusedVariables false
set_option linter.unusedSimpArgs false
namespace Go.Proofs.YtgohhebffcldeaaGreatDoor
open Go.RowKit
open Num

theorem intInfo : (Tryz.prog.info? 3).map (fun i => (i.zero, i.size, i.bytes)) = some (some (.int .i64 0), 1, 8) := by kernel_rfl
theorem intsUnder : Tryz.prog.underlying 200 = some (.slice 3) := by kernel_rfl
theorem run_make_ints (c : Nat) (hc : c ≤ 17592186044416) : ∀ W : World, (Instr.makeSlice 200 (.int .i64 (c : Int)) (.int .i64 (c : Int))).run Tryz.prog W =
    .ok (.slice (some ⟨W.heap.size, 0, none⟩) c c) (W.alloc (.cells (madeCells #[.int .i64 0] c) 3)) := by
  intro W
  obtain ⟨i0, hi, hzz⟩ := Option.map_eq_some_iff.1 intInfo
  simp only [Prod.mk.injEq] at hzz
  obtain ⟨hz0, hz1, hz2⟩ := hzz
  have h := run_make (P := Tryz.prog) W 200 3 i0 (.int .i64 0) intsUnder hi hz0 .i64 .i64 (c : Int) (c : Int) (by omega) (by omega) (by rw [hz2]; omega) (by omega)
  simp only [Int.toNat_natCast, hz1, Nat.mul_one] at h
  exact h

theorem digit_any (g p c n V i : Nat) (w : World) (hn : n ≤ 9223372036854775807) (hV : V < 2 ^ (8 * n)) (hc : ∀ i, i < n → w.cell? ⟨g, p + i, none⟩ = some (.int .u8 (dg V (n - 1 - i)))) :
    Calls Tryz.prog 90 #[.slice (some ⟨g, p, none⟩) n c, .int .i64 i] w fun e w' => e = .returned (.int .i64 (dg V i)) ∧ ∃ k, w' = w.drewN k := by
  by_cases hi : i < n
  · refine (digit_in g p c n V i w hi hn hc).mono ?_
    rintro e w' ⟨rfl, rfl⟩
    exact ⟨rfl, 0, rfl⟩
  · refine (digit_out _ c n i w (by omega)).mono ?_
    rintro e w' ⟨rfl, rfl⟩
    exact ⟨by rw [dg_high hV (by omega)]; rfl, 0, rfl⟩

theorem Mul_some (nx ny : Bool) (gx px cx n V gy py cy m U : Nat) (w : World) (h0 : 0 < n) (h1 : 0 < m) (hn : n ≤ 16777216) (hm : m ≤ 16777216) (hV : V < 2 ^ (8 * n)) (hU : U < 2 ^ (8 * m)) (hgx : gx < w.heap.size) (hgy : gy < w.heap.size)
    (hcx : ∀ i, i < n → w.cell? ⟨gx, px + i, none⟩ = some (.int .u8 (dg V (n - 1 - i)))) (hcy : ∀ i, i < m → w.cell? ⟨gy, py + i, none⟩ = some (.int .u8 (dg U (m - 1 - i)))) :
    Calls Tryz.prog 87 #[.agg #[.bool nx, .slice (some ⟨gx, px, none⟩) n cx], .agg #[.bool ny, .slice (some ⟨gy, py, none⟩) m cy]] w fun e w' => ∃ s l, e = .returned (.agg #[.bool ((nx != ny) && decide (0 < V * U)), s]) ∧ l ≤ n + m ∧ NewMag w w' s l (V * U) := by
  have hmk := run_make_ints (n + m + 1) (by omega)
  have e1 : ((n + m + 1 : Nat) : Int) = (n : Int) + (m : Int) + 1 := by omega
  rw [e1] at hmk
  have hmk2 := run_make_bytes (n + m) (by omega)
  have e2 : ((n + m : Nat) : Int) = (n : Int) + (m : Int) := by omega
  rw [e2] at hmk2
  clear e1 e2
  obtain ⟨w1, hw1⟩ : ∃ w1, w1 = (((w.alloc (.cells #[.bool nx, .slice (some ⟨gx, px, none⟩) n cx] 29)).alloc (.cells #[.bool ny, .slice (some ⟨gy, py, none⟩) m cy] 29)).alloc (.cells #[.bool false, .slice none 0 0] 29)) := ⟨_, rfl⟩
  have hrow := Row.made w1 3 (n + m + 1) (.int .i64 0)
  have hsz1 : w1.heap.size = w.heap.size + 3 := by rw [hw1]; simp
  obtain ⟨w2, hw2⟩ : ∃ w2, w2 = w1.alloc (.cells (madeCells #[.int .i64 0] (n + m + 1)) 3) := ⟨_, rfl⟩
  rw [← hw2, hsz1] at hrow
  have hb1 : Below w.heap.size w w1 := by rw [hw1]; exact (((Below.refl _ _).alloc (Nat.le_refl _) _).alloc (by simp) _).alloc (by simp; omega) _
  have hb2 : Below w.heap.size w w2 := by rw [hw2]; exact hb1.alloc (by omega) _
  have q0 : w2.heap[w.heap.size]? = some (.cells #[.bool nx, .slice (some ⟨gx, px, none⟩) n cx] 29 (0, 0)) := by
    rw [hw2, heap_alloc_old _ _ (by omega), hw1]; exact heap3_0 _ _ _ _
  have q1 : w2.heap[w.heap.size + 1]? = some (.cells #[.bool ny, .slice (some ⟨gy, py, none⟩) m cy] 29 (0, 0)) := by
    rw [hw2, heap_alloc_old _ _ (by omega), hw1]; exact heap3_1 _ _ _ _
  have q2 : w2.heap[w.heap.size + 2]? = some (.cells #[.bool false, .slice none 0 0] 29 (0, 0)) := by
    rw [hw2, heap_alloc_old _ _ (by omega), hw1]; exact heap3_2 _ _ _ _
  have hsz2 : w2.heap.size = w.heap.size + 4 := by rw [hw2]; simp [hsz1]
  have HDX := Lib.hid (fun (wr : World) (h : Chg (w.heap.size + 3) w2 wr) (i : Nat) => digit_any gx px cx n V i wr (by omega) hV (fun i hi => by rw [h.cell (p := ⟨gx, px + i, none⟩) (by show gx < _; omega) (by show gx ≠ _; omega), hb2.cell (p := ⟨gx, px + i, none⟩) hgx]; exact hcx i hi))
  have HDY := Lib.hid (fun (wr : World) (h : Chg (w.heap.size + 3) w2 wr) (i : Nat) => digit_any gy py cy m U i wr (by omega) hU (fun i hi => by rw [h.cell (p := ⟨gy, py + i, none⟩) (by show gy < _; omega) (by show gy ≠ _; omega), hb2.cell (p := ⟨gy, py + i, none⟩) hgy]; exact hcy i hi))
  have HQ0 := Lib.hid q0; have HQ1 := Lib.hid q1; have HQ2 := Lib.hid q2
  have HSZ := Lib.hid hsz2
  have HB2 := Lib.hid hb2
  have HV := Lib.hid hV; have HU := Lib.hid hU
  have HS1 := Lib.hid hsz1
  have HW2 := Lib.hid hw2
  have HW1 := Lib.hid hw1
  clear hcx hcy q0 q1 q2 hsz2 hb2 hb1 hV hU hgx hgy hw1 hw2 hsz1
  go_enter Tryz.func87, Tryz.ntmps87
  go_wp2_with fail
  rw [← HW1.out, ← HW2.out]
  obtain ⟨g, hg⟩ : ∃ g, g = w.heap.size + 1 + 1 + 1 := ⟨_, rfl⟩
  rw [← hg]
  obtain ⟨b2, hb2⟩ : ∃ b2, b2 = w.heap.size + 1 + 1 := ⟨_, rfl⟩
  rw [← hb2]
  obtain ⟨b1, hb1⟩ : ∃ b1, b1 = w.heap.size + 1 := ⟨_, rfl⟩
  rw [← hb1]
  obtain ⟨b0, hb0⟩ : ∃ b0, b0 = w.heap.size := ⟨_, rfl⟩
  have hg' : w.heap.size + 3 = g := by omega
  rw [hg'] at hrow HDX HDY
  have Q0 : Hid (∀ wr, Chg g w2 wr → wr.cell? ⟨b0, 1, none⟩ = some (.slice (some ⟨gx, px, none⟩) n cx) ∧ wr.cell? ⟨b0, 0, none⟩ = some (.bool nx)) := fun wr h => by
    have := HSZ.out
    have q : wr.heap[b0]? = some (.cells #[.bool nx, .slice (some ⟨gx, px, none⟩) n cx] 29 (0, 0)) := (h.block b0 (by omega) (by omega)).trans (by rw [hb0]; exact HQ0.out)
    exact ⟨(cell_of_row _ _ 1 _ _ (0, 0) q).trans rfl, (cell_of_row _ _ 0 _ _ (0, 0) q).trans rfl⟩
  have Q1 : Hid (∀ wr, Chg g w2 wr → wr.cell? ⟨b1, 1, none⟩ = some (.slice (some ⟨gy, py, none⟩) m cy) ∧ wr.cell? ⟨b1, 0, none⟩ = some (.bool ny)) := fun wr h => by
    have := HSZ.out
    have q : wr.heap[b1]? = some (.cells #[.bool ny, .slice (some ⟨gy, py, none⟩) m cy] 29 (0, 0)) := (h.block b1 (by omega) (by omega)).trans (by rw [hb1]; exact HQ1.out)
    exact ⟨(cell_of_row _ _ 1 _ _ (0, 0) q).trans rfl, (cell_of_row _ _ 0 _ _ (0, 0) q).trans rfl⟩
  have HG := Lib.hid hg; have HG2 := Lib.hid hb2; have HG1 := Lib.hid hb1; have HG0 := Lib.hid hb0; have HG' := Lib.hid hg'
  have HROW := Lib.hid hrow
  clear hg hb2 hb1 hb0 hg' hrow
  rw [show w.heap.size = b0 from HG0.out.symm]
  go_loopw [7] (fun i wr => ∃ k : Nat, ∃ D : Nat → Nat, k ≤ n ∧ i = .int .i64 k ∧ Row wr g 3 (n + m + 1) (fun j => .int .i64 (D j)) ∧ Hid (∀ j, j < n + m + 1 → D j = dg (U * (V % 2 ^ (8 * k))) j) ∧ Hid (Chg g w2 wr)) (fun i _ => n - (intOf i).toNat)
  case atStart => exact ⟨0, fun _ => 0, by omega, by simp, HROW.out, fun j hj => by simp [Nat.mod_one, dg], Chg.refl _ _⟩
  case round =>
    obtain ⟨i, D, hi, rfl, hr, HD, HCH⟩ := hrel
    have x1 := (Q0.out _ HCH.out).1
    by_cases hin : i < n
    · have HR := Lib.hid hr; clear hr
      go_wp2_with fail
      go_loopw [8, 9] (fun c k wi => ∃ c' k' : Nat, ∃ D' : Nat → Nat, c = .int .i64 c' ∧ k = .int .i64 k' ∧ (k' ≤ m ∨ (k' = m + 1 ∧ c' = 0)) ∧ Row wi g 3 (n + m + 1) (fun j => .int .i64 (D' j)) ∧ Hid (MulSt V U i k' c' (n + m + 1) D') ∧ Hid (Chg g w2 wi)) (fun _ k _ => m + 2 - (intOf k).toNat)
      case atStart => exact ⟨0, 0, D, by simp, by simp, by omega, HR.out, MulSt.start HD.out (by omega), HCH.out⟩
      case round =>
        obtain ⟨c, k, D', rfl, rfl, hkc, hri, HMS, HCI⟩ := hrel
        have y1 := (Q1.out _ HCI.out).1
        have x1' := (Q0.out _ HCI.out).1
        have hgo : (k < m ∨ 0 < c) ∨ (m ≤ k ∧ c = 0) := by omega
        rcases hgo with hgo | ⟨hkm, rfl⟩
        · have hik : i + k < n + m + 1 := by omega
          have hdl : D' (i + k) < 256 := by rw [HMS.out.high _ (Nat.le_refl _) hik]; exact dg_lt _ _
          have hcl := HMS.out.small
          obtain ⟨z, hz⟩ : ∃ z, z = dg V i * dg U k := ⟨_, rfl⟩
          have hz1 : (dg V i : Int) * (dg U k : Int) = (z : Int) := by rw [hz]; simp
          have hz2 : z ≤ 65025 := by rw [hz]; exact Nat.mul_le_mul (Nat.le_of_lt_succ (dg_lt V i)) (Nat.le_of_lt_succ (dg_lt U k))
          have hst := HMS.out.step hik (s := D' (i + k) + z + c) (by rw [hz])
          have hlast : k = m → D' (i + k) = 0 ∧ z = 0 := fun e => by
            subst e
            exact ⟨HMS.out.last HU.out hik, by rw [hz, dg_high HU.out (Nat.le_refl _)]; rfl⟩
          obtain ⟨q, hq⟩ : ∃ q, q = i + k := ⟨_, rfl⟩
          have hqi : (i : Int) + (k : Int) = (q : Int) := by omega
          have hcell := hri.cell hik
          have hfr := hri.frozen (i + k)
          rw [← hq] at hcell hfr hik hdl hst hlast
          have HQE := Lib.hid hq
          have hikz : (q : Int) < (n : Int) + (m : Int) + 1 := by omega
          have hwq : IntKind.i64.wrap (q : Int) = (q : Int) := by simp only [IntKind.wrap_i64]; omega
          have hwz : IntKind.i64.wrap (z : Int) = (z : Int) := by simp only [IntKind.wrap_i64]; omega
          have HST := Lib.hid hst; have HLA := Lib.hid hlast; have HZ := Lib.hid hz
          have HRI := Lib.hid hri
          have HX := Lib.hid (fun t => HDX.out _ (HCI.out.drewN t) i)
          have HY := Lib.hid (fun t => HDY.out _ (HCI.out.drewN t) k)
          have hvl := dg_lt V i
          have hul := dg_lt U k
          have hsum : (D' q : Int) + (z : Int) + (c : Int) = ((D' q + z + c : Nat) : Int) := by omega
          obtain ⟨s, hs⟩ : ∃ s, s = D' q + z + c := ⟨_, rfl⟩
          rw [← hs] at hsum
          have hsl : s < 65536 := by omega
          have hws : IntKind.i64.wrap (s : Int) = (s : Int) := by simp only [IntKind.wrap_i64]; omega
          have hwt : IntKind.i64.wrap ((D' q : Int) + (z : Int)) = (D' q : Int) + (z : Int) := by simp only [IntKind.wrap_i64]; omega
          have HS := Lib.hid hs
          clear hst hlast hz hri hs hq
          by_cases hkm : k < m
          · go_wp2_with fail
            go_quiet ((first | (go_at_call 90; with_reducible exact Calls.quiet_of (HX.out _)) | (go_at_call 90; with_reducible exact Calls.quiet_of (HY.out _))))
            go_wp2
            go_roundw
            case rel =>
              refine ⟨s / 256, k + 1, fun j => if j = q then s % 256 else D' j, by simp, by simp, ?_, ?_, ?_, (HCI.out.drewN nq).set q _⟩
              · first
                  | (left; omega)
                  | (right
                     have e : k = m := by omega
                     have h := HLA.out e
                     have h2 := HS.out
                     exact ⟨by omega, by omega⟩)
              · refine ((HRI.out.drewN nq).set q _).congr (fun j hj => ?_)
                show (if _ then _ else _) = _
                by_cases e : j = q
                · rw [if_pos e]; simp [e]
                · rw [if_neg e]; simp [e]
              · have h := HST.out
                rw [← HS.out] at h
                exact h
            case measure => simp [intOf]; omega
          · have hcp : 0 < c := by omega
            go_wp2_with fail
            go_quiet ((first | (go_at_call 90; with_reducible exact Calls.quiet_of (HX.out _)) | (go_at_call 90; with_reducible exact Calls.quiet_of (HY.out _))))
            go_wp2
            go_roundw
            case rel =>
              refine ⟨s / 256, k + 1, fun j => if j = q then s % 256 else D' j, by simp, by simp, ?_, ?_, ?_, (HCI.out.drewN nq).set q _⟩
              · first
                  | (left; omega)
                  | (right
                     have e : k = m := by omega
                     have h := HLA.out e
                     have h2 := HS.out
                     exact ⟨by omega, by omega⟩)
              · refine ((HRI.out.drewN nq).set q _).congr (fun j hj => ?_)
                show (if _ then _ else _) = _
                by_cases e : j = q
                · rw [if_pos e]; simp [e]
                · rw [if_neg e]; simp [e]
              · have h := HST.out
                rw [← HS.out] at h
                exact h
            case measure => simp [intOf]; omega
        · have hdone := Lib.hid (HMS.out.done HU.out hkm)
          have HRI := Lib.hid hri; clear hri
          go_wp2
          go_roundw
          case rel => exact ⟨i + 1, D', by omega, by go_num, HRI.out, hdone.out, HCI.out⟩
          case measure => simp [intOf]; omega
    · obtain rfl : i = n := by omega
      have HR := Lib.hid hr; clear hr
      have hxn : V % 2 ^ (8 * i) = V := Nat.mod_eq_of_lt HV.out
      have HDV : Hid (∀ j, j < i + m + 1 → D j = dg (V * U) j) := fun j hj => by rw [HD.out j hj, hxn, Nat.mul_comm]
      clear hxn
      have hrow2 := Row.made wr 5 (i + m) (.int .u8 0)
      have hbx : Below wr.heap.size wr (wr.alloc (.cells (madeCells #[.int .u8 0] (i + m)) 5)) := (Below.refl _ _).alloc (Nat.le_refl _) _
      go_wp2_with fail
      have HCW := Lib.hid HCH.out
      generalize wr.alloc (.cells (madeCells #[.int .u8 0] (i + m)) 5) = w3 at *
      obtain ⟨h, hh⟩ : ∃ h, h = wr.heap.size := ⟨_, rfl⟩
      rw [← hh] at hrow2 ⊢
      have HH := Lib.hid hh
      have hgh : g < h := by rw [hh]; exact HR.out.lt
      have HBX := Lib.hid hbx; have HROW2 := Lib.hid hrow2
      have hgd : Hid (∀ j, j < i + m + 1 → w3.cell? ⟨g, j, none⟩ = some (.int .i64 (dg (V * U) j))) := fun j hj => by
        rw [HBX.out.cell (p := ⟨g, j, none⟩) HR.out.lt, HR.out.cell hj, HDV.out j hj]
      clear hh hbx hrow2
      go_loopw [12] (fun t wq => ∃ k : Nat, ∃ f, k ≤ i + m ∧ t = .int .i64 k ∧ Row wq h 5 (i + m) f ∧ Hid (∀ j, j < k → f (i + m - 1 - j) = .int .u8 (dg (V * U) j)) ∧ Hid (Chg h w3 wq)) (fun t _ => i + m - (intOf t).toNat)
      case atStart => exact ⟨0, _, by omega, by simp, HROW2.out, fun j hj => by omega, Chg.refl _ _⟩
      case round =>
        obtain ⟨k, f, hk, rfl, hrq, HF, HCQ⟩ := hrel
        by_cases hkl : k < i + m
        · have cg : wr.cell? ⟨g, k, none⟩ = some (.int .i64 (dg (V * U) k)) := (HCQ.out.cell (p := ⟨g, k, none⟩) (by have := HR.out.lt; have := HBX.out.size; show g < _; omega) (by show g ≠ h; omega)).trans (hgd.out k (by omega))
          have c0 := hrq.cell (i := i + m - 1 - k) (by omega)
          have f0 := hrq.frozen (i + m - 1 - k)
          have hd := dg_lt (V * U) k
          have ei : ((i : Int) + (m : Int) - 1 - (k : Int)).toNat = i + m - 1 - k := by omega
          have HRQ := Lib.hid hrq; clear hrq
          go_wp2
          go_roundw
          case rel =>
            refine ⟨k + 1, _, by omega, by go_num, HRQ.out.set (i + m - 1 - k) _, fun j hj => ?_, HCQ.out.set _ _⟩
            show (if _ then _ else _) = _
            by_cases e : j = k
            · rw [if_pos (by omega), e]
            · rw [if_neg (by omega)]; exact HF.out j (by omega)
          case measure => simp [intOf]; omega
        · obtain rfl : k = i + m := by omega
          have hgB : w.heap.size ≤ g := by have := HG.out; omega
          have hwo := Chg.below HB2.out HB2.out.size HCW.out hgB
          have hw3 := hwo.trans (HBX.out.mono hwo.size)
          have hwq := Chg.below hw3 hw3.size HCQ.out (by have := HH.out; have := hwo.size; omega)
          have KB : ∀ b, b < w.heap.size + 3 → wr.heap[b]? = w2.heap[b]? := fun b hb => by
            have h1 := HSZ.out
            have h2 := HCW.out.size
            have h3 := HBX.out.size
            have h4 := HH.out
            have h5 := HG.out
            rw [HCQ.out.block b (by omega) (by omega), HBX.out.block b (by omega), HCW.out.block b (by omega) (by omega)]
          have hk0 : wr.heap[b0]? = some (.cells #[.bool nx, .slice (some ⟨gx, px, none⟩) i cx] 29 (0, 0)) := (KB _ (show b0 < _ by have := HG0.out; omega)).trans (by rw [HG0.out]; exact HQ0.out)
          have hk1 : wr.heap[b1]? = some (.cells #[.bool ny, .slice (some ⟨gy, py, none⟩) m cy] 29 (0, 0)) := (KB _ (show b1 < _ by have := HG1.out; omega)).trans (by rw [HG1.out]; exact HQ1.out)
          have hk2 : wr.heap[b2]? = some (.cells #[.bool false, .slice none 0 0] 29 (0, 0)) := (KB _ (show b2 < _ by have := HG2.out; omega)).trans (by rw [HG2.out]; exact HQ2.out)
          have x0 := (cell_of_row wr b0 0 _ _ (0, 0) hk0).trans rfl
          have y0 := (cell_of_row wr b1 0 _ _ (0, 0) hk1).trans rfl
          have hbyt : BytAt wr (.slice (some ⟨h, 0, none⟩) (i + m) (i + m)) (i + m) (V * U) := by
            refine ⟨?_, .inr ⟨by omega, h, 0, i + m, rfl, Nat.le_refl _, hrq.lt, fun j hj => ?_⟩⟩
            · rw [show 8 * (i + m) = 8 * i + 8 * m by omega, Nat.pow_add]
              exact Nat.mul_lt_mul_of_lt_of_le HV.out (Nat.le_of_lt HU.out) (Nat.two_pow_pos _)
            · have := HF.out (i + m - 1 - j) (by omega)
              rw [show i + m - 1 - (i + m - 1 - j) = j by omega] at this
              rw [Nat.zero_add, hrq.cell hj, this]
          have HOF := Lib.hid (Of_any (nx != ny) _ _ _ _ hbyt (by omega))
          have HWQ := Lib.hid hwq
          have HK2 := Lib.hid hk2
          have hbl : b2 < wr.heap.size := (Array.getElem?_eq_some_iff.1 hk2).1
          clear hbyt hwq hw3 hwo KB hk0 hk1 hk2 hrq
          go_wp2_with fail
          refine HOF.out.mono ?_
          rintro e w5 ⟨s5, l, rfl, hl, hn5⟩
          obtain ⟨a5, c5, rfl⟩ := hn5.1.shape
          have hR := (hn5.2.2.block b2 hbl).trans HK2.out
          have hne : ∀ b k c', Value.slice a5 l c5 = .slice (some b) k c' → 0 < l → b.block ≠ b2 := fun b k c' e h0 => by have := hn5.2.1 b k c' e h0; omega
          have HN := Lib.hid (hn5.from HWQ.out)
          have HNE := Lib.hid hne
          have HR5 := Lib.hid hR
          have hBB : w.heap.size ≤ b2 := by have := HG2.out; omega
          have HBB := Lib.hid hBB
          have z0 := (cell_of_row w5 _ 0 _ _ (0, 0) hR).trans rfl
          have z1 := (cell_of_row w5 _ 1 _ _ (0, 0) hR).trans rfl
          have f0 : ∀ i, w5.frozen? ⟨b2, i, none⟩ = false := fun i => by simp [World.frozen?, hR]
          obtain ⟨ng, hng⟩ : ∃ ng, ng = ((nx != ny) && decide (0 < V * U)) := ⟨_, rfl⟩
          rw [← hng]
          have HNG := Lib.hid hng
          clear hn5 hR hne hBB hng
          go_wp2
          have hW := set1 (i := 1) (x := .slice a5 l c5) (set1 (i := 0) (x := .bool ng) HR5.out)
          have e0 := (cell_of_row _ _ 0 _ _ (0, 0) hW).trans rfl
          have e1 := (cell_of_row _ _ 1 _ _ (0, 0) hW).trans rfl
          refine bodyPost_ret (v := .agg #[.bool ng, .slice a5 l c5]) (by simp [results, Tryz.results87, go_sem, e0, e1]) rfl ⟨_, l, ?_, hl, (HN.out.put HBB.out HNE.out _).put HBB.out HNE.out _⟩
          rw [← HNG.out]

end Go.Proofs.YtgohhebffcldeaaGreatDoor
