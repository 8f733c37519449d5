import Derived.Test.YtpcleebnfgnhdaaGreatDoorGz1
import Derived.Test.YtpcleebnfgnhdaaGreatDoorGz7
/- The plain law of multiplication digit by digit. No program in sight. -/
set_option linter.unusedVariables false
namespace Go.Proofs.YtpcleebnfgnhdaaGreatDoor
namespace Num

theorem dg_add_high (x z q j : Nat) (h : j < q) : dg (x + 2 ^ (8 * q) * z) j = dg x j := by
  unfold dg
  have e : 2 ^ (8 * q) = 2 ^ (8 * j) * (2 ^ 8 * 2 ^ (8 * (q - j - 1))) := by
    rw [← Nat.pow_add, ← Nat.pow_add]; congr 1; omega
  rw [e, Nat.mul_assoc, Nat.add_mul_div_left _ _ (Nat.two_pow_pos _), Nat.mul_assoc (2 ^ 8), Nat.add_mul_mod_self_left]
theorem mod_dg (U k : Nat) : U % 2 ^ (8 * (k + 1)) = U % 2 ^ (8 * k) + 2 ^ (8 * k) * dg U k := by
  unfold dg
  rw [show 8 * (k + 1) = 8 * k + 8 by omega, Nat.pow_add, Nat.mod_mul]
theorem div_dg (x q : Nat) : x / 2 ^ (8 * q) = dg x q + 256 * (x / 2 ^ (8 * (q + 1))) := by
  unfold dg
  rw [show 8 * (q + 1) = 8 * q + 8 by omega, Nat.pow_add, ← Nat.div_div_eq_div_mul]
  have := Nat.mod_add_div (x / 2 ^ (8 * q)) (2 ^ 8)
  omega

/-- the total after k rounds of the inner loop in round i of the outer one -/
def mulT (V U i k : Nat) : Nat := U * (V % 2 ^ (8 * i)) + 2 ^ (8 * i) * (dg V i * (U % 2 ^ (8 * k)))
theorem mulT_zero (V U i : Nat) : mulT V U i 0 = U * (V % 2 ^ (8 * i)) := by simp [mulT, Nat.mod_one]
theorem mulT_succ (V U i k : Nat) : mulT V U i (k + 1) = mulT V U i k + 2 ^ (8 * (i + k)) * (dg V i * dg U k) := by
  unfold mulT
  rw [mod_dg, Nat.mul_add, Nat.mul_add, ← Nat.add_assoc]
  congr 1
  rw [show 8 * (i + k) = 8 * i + 8 * k by omega, Nat.pow_add]
  rw [Nat.mul_assoc, Nat.mul_left_comm (dg V i)]
theorem mulT_full (V U i k m : Nat) (hU : U < 2 ^ (8 * m)) (hk : m ≤ k) : mulT V U i k = U * (V % 2 ^ (8 * (i + 1))) := by
  have : U % 2 ^ (8 * k) = U := Nat.mod_eq_of_lt (Nat.lt_of_lt_of_le hU (Nat.pow_le_pow_right (by omega) (by omega)))
  unfold mulT
  rw [this, mod_dg V i, Nat.mul_add]
  congr 1
  rw [Nat.mul_comm U, Nat.mul_assoc]

/-- the digits and the carry after k rounds -/
structure MulSt (V U i k carry N : Nat) (D : Nat → Nat) : Prop where
  low : ∀ j, j < i + k → D j = dg (mulT V U i k) j
  high : ∀ j, i + k ≤ j → j < N → D j = dg (U * (V % 2 ^ (8 * i))) j
  sum : mulT V U i k / 2 ^ (8 * (i + k)) = U * (V % 2 ^ (8 * i)) / 2 ^ (8 * (i + k)) + carry
  small : carry < 256

theorem MulSt.start {V U i N : Nat} {D : Nat → Nat} (h : ∀ j, j < N → D j = dg (U * (V % 2 ^ (8 * i))) j) (hiN : i ≤ N) : MulSt V U i 0 0 N D :=
  ⟨fun j hj => by rw [mulT_zero]; exact h j (by omega), fun j _ hj => h j hj, by rw [mulT_zero]; rfl, by omega⟩

theorem MulSt.step {V U i k c N s : Nat} {D : Nat → Nat} (h : MulSt V U i k c N D) (hN : i + k < N) (hs : s = D (i + k) + dg V i * dg U k + c) :
    MulSt V U i (k + 1) (s / 256) N (fun j => if j = i + k then s % 256 else D j) := by
  have hD := h.high (i + k) (Nat.le_refl _) hN
  have hq : mulT V U i (k + 1) / 2 ^ (8 * (i + k)) = U * (V % 2 ^ (8 * i)) / 2 ^ (8 * (i + k)) + c + dg V i * dg U k := by
    rw [mulT_succ, Nat.add_mul_div_left _ _ (Nat.two_pow_pos _), h.sum]
  have hS := div_dg (U * (V % 2 ^ (8 * i))) (i + k)
  have hT := div_dg (mulT V U i (k + 1)) (i + k)
  have hlt := dg_lt (mulT V U i (k + 1)) (i + k)
  have hlt2 := dg_lt (U * (V % 2 ^ (8 * i))) (i + k)
  have hv := dg_lt V i
  have hu := dg_lt U k
  have hvu : dg V i * dg U k ≤ 255 * 255 := Nat.mul_le_mul (by omega) (by omega)
  have hc := h.small
  rw [show i + k + 1 = i + (k + 1) by omega] at hS hT
  generalize dg V i * dg U k = z at *
  refine ⟨fun j hj => ?_, fun j h1 h2 => ?_, ?_, by omega⟩
  · show (if _ then _ else _) = _
    by_cases e : j = i + k
    · rw [if_pos e, e]; omega
    · rw [if_neg e, h.low j (by omega), mulT_succ]
      exact (dg_add_high _ _ _ _ (by omega)).symm
  · show (if _ then _ else _) = _
    rw [if_neg (by omega)]; exact h.high j (by omega) h2
  · omega

theorem MulSt.done {V U i k m N : Nat} {D : Nat → Nat} (h : MulSt V U i k 0 N D) (hU : U < 2 ^ (8 * m)) (hk : m ≤ k) : ∀ j, j < N → D j = dg (U * (V % 2 ^ (8 * (i + 1)))) j := by
  intro j hj
  rw [← mulT_full V U i k m hU hk]
  by_cases hjk : j < i + k
  · exact h.low j hjk
  · rw [h.high j (by omega) hj]
    unfold dg
    have e : ∀ x, x / 2 ^ (8 * j) = x / 2 ^ (8 * (i + k)) / 2 ^ (8 * (j - (i + k))) := fun x => by
      rw [Nat.div_div_eq_div_mul, ← Nat.pow_add]; congr 2; omega
    rw [e, e (mulT V U i k), h.sum, Nat.add_zero]
theorem MulSt.last {V U i m c N : Nat} {D : Nat → Nat} (h : MulSt V U i m c N D) (hU : U < 2 ^ (8 * m)) (hN : i + m < N) : D (i + m) = 0 := by
  rw [h.high _ (Nat.le_refl _) hN]
  unfold dg
  rw [Nat.div_eq_of_lt]
  · rw [show 8 * (i + m) = 8 * m + 8 * i by omega, Nat.pow_add]
    exact Nat.mul_lt_mul_of_lt_of_le hU (Nat.le_of_lt (Nat.mod_lt _ (Nat.two_pow_pos _))) (Nat.two_pow_pos _)

end Num
end Go.Proofs.YtpcleebnfgnhdaaGreatDoor

/- Walks: spec.Int.Mul. -/
set_option linter.unusedVariables false
set_option linter.unusedSimpArgs false
namespace Go.Proofs.YtpcleebnfgnhdaaGreatDoor
open Go.RowKit
open Num

theorem intInfo : (Tryz.prog.info? 3).map (fun i => (i.zero, i.size, i.bytes)) = some (some (.int .i64 0), 1, 8) := by kernel_rfl
theorem intsUnder : Tryz.prog.underlying 46 = some (.slice 3) := by kernel_rfl
theorem run_make_ints (c : Nat) (hc : c ≤ 17592186044416) : ∀ W : World, (Instr.makeSlice 46 (.int .i64 (c : Int)) (.int .i64 (c : Int))).run Tryz.prog W =
    .ok (.slice (some ⟨W.heap.size, 0, none⟩) c c) (W.alloc (.cells (madeCells #[.int .i64 0] c) 3)) := by
  intro W
  obtain ⟨i0, hi, hzz⟩ := Option.map_eq_some_iff.1 intInfo
  simp only [Prod.mk.injEq] at hzz
  obtain ⟨hz0, hz1, hz2⟩ := hzz
  have h := run_make (P := Tryz.prog) W 46 3 i0 (.int .i64 0) intsUnder hi hz0 .i64 .i64 (c : Int) (c : Int) (by omega) (by omega) (by rw [hz2]; omega) (by omega)
  simp only [Int.toNat_natCast, hz1, Nat.mul_one] at h
  exact h

theorem digit_any (g p c n V i : Nat) (w : World) (hn : n ≤ 9223372036854775807) (hV : V < 2 ^ (8 * n)) (hc : ∀ i, i < n → w.cell? ⟨g, p + i, none⟩ = some (.int .u8 (dg V (n - 1 - i)))) :
    Calls Tryz.prog 167 #[.slice (some ⟨g, p, none⟩) n c, .int .i64 i] w fun e w' => e = .returned (.int .i64 (dg V i)) ∧ ∃ k, w' = w.drewN k := by
  by_cases hi : i < n
  · refine (digit_in g p c n V i w hi hn hc).mono ?_
    rintro e w' ⟨rfl, rfl⟩
    exact ⟨rfl, 0, rfl⟩
  · refine (digit_out _ c n i w (by omega)).mono ?_
    rintro e w' ⟨rfl, rfl⟩
    exact ⟨by rw [dg_high hV (by omega)]; rfl, 0, rfl⟩

theorem Mul_some (nx ny : Bool) (gx px cx n V gy py cy m U : Nat) (w : World) (h0 : 0 < n) (h1 : 0 < m) (hn : n ≤ 16777216) (hm : m ≤ 16777216) (hV : V < 2 ^ (8 * n)) (hU : U < 2 ^ (8 * m)) (hgx : gx < w.heap.size) (hgy : gy < w.heap.size)
    (hcx : ∀ i, i < n → w.cell? ⟨gx, px + i, none⟩ = some (.int .u8 (dg V (n - 1 - i)))) (hcy : ∀ i, i < m → w.cell? ⟨gy, py + i, none⟩ = some (.int .u8 (dg U (m - 1 - i)))) :
    Calls Tryz.prog 157 #[.agg #[.bool nx, .slice (some ⟨gx, px, none⟩) n cx], .agg #[.bool ny, .slice (some ⟨gy, py, none⟩) m cy]] w fun e w' => ∃ s l, e = .returned (.agg #[.bool ((nx != ny) && decide (0 < V * U)), s]) ∧ l ≤ n + m ∧ NewMag w w' s l (V * U) := by
  have hmk := run_make_ints (n + m + 1) (by omega)
  have e1 : ((n + m + 1 : Nat) : Int) = (n : Int) + (m : Int) + 1 := by omega
  rw [e1] at hmk
  have hmk2 := run_make_bytes (n + m) (by omega)
  have e2 : ((n + m : Nat) : Int) = (n : Int) + (m : Int) := by omega
  rw [e2] at hmk2
  clear e1 e2
  obtain ⟨w1, hw1⟩ : ∃ w1, w1 = (((w.alloc (.cells #[.bool nx, .slice (some ⟨gx, px, none⟩) n cx] 84)).alloc (.cells #[.bool ny, .slice (some ⟨gy, py, none⟩) m cy] 84)).alloc (.cells #[.bool false, .slice none 0 0] 84)) := ⟨_, rfl⟩
  have hrow := Row.made w1 3 (n + m + 1) (.int .i64 0)
  have hsz1 : w1.heap.size = w.heap.size + 3 := by rw [hw1]; simp
  obtain ⟨w2, hw2⟩ : ∃ w2, w2 = w1.alloc (.cells (madeCells #[.int .i64 0] (n + m + 1)) 3) := ⟨_, rfl⟩
  rw [← hw2, hsz1] at hrow
  have hb1 : Below w.heap.size w w1 := by rw [hw1]; exact (((Below.refl _ _).alloc (Nat.le_refl _) _).alloc (by simp) _).alloc (by simp; omega) _
  have hb2 : Below w.heap.size w w2 := by rw [hw2]; exact hb1.alloc (by omega) _
  have q0 : w2.heap[w.heap.size]? = some (.cells #[.bool nx, .slice (some ⟨gx, px, none⟩) n cx] 84 (0, 0)) := by
    rw [hw2, heap_alloc_old _ _ (by omega), hw1]; exact heap3_0 _ _ _ _
  have q1 : w2.heap[w.heap.size + 1]? = some (.cells #[.bool ny, .slice (some ⟨gy, py, none⟩) m cy] 84 (0, 0)) := by
    rw [hw2, heap_alloc_old _ _ (by omega), hw1]; exact heap3_1 _ _ _ _
  have q2 : w2.heap[w.heap.size + 2]? = some (.cells #[.bool false, .slice none 0 0] 84 (0, 0)) := by
    rw [hw2, heap_alloc_old _ _ (by omega), hw1]; exact heap3_2 _ _ _ _
  have hsz2 : w2.heap.size = w.heap.size + 4 := by rw [hw2]; simp [hsz1]
  have HDX := Lib.hid (fun (wr : World) (h : Chg (w.heap.size + 3) w2 wr) (i : Nat) => digit_any gx px cx n V i wr (by omega) hV (fun i hi => by rw [h.cell (p := ⟨gx, px + i, none⟩) (by show gx < _; omega) (by show gx ≠ _; omega), hb2.cell (p := ⟨gx, px + i, none⟩) hgx]; exact hcx i hi))
  have HDY := Lib.hid (fun (wr : World) (h : Chg (w.heap.size + 3) w2 wr) (i : Nat) => digit_any gy py cy m U i wr (by omega) hU (fun i hi => by rw [h.cell (p := ⟨gy, py + i, none⟩) (by show gy < _; omega) (by show gy ≠ _; omega), hb2.cell (p := ⟨gy, py + i, none⟩) hgy]; exact hcy i hi))
  have HQ0 := Lib.hid q0; have HQ1 := Lib.hid q1; have HQ2 := Lib.hid q2
  have HSZ := Lib.hid hsz2
  have HB2 := Lib.hid hb2
  have HV := Lib.hid hV; have HU := Lib.hid hU
  have HS1 := Lib.hid hsz1
  have HW2 := Lib.hid hw2
  have HW1 := Lib.hid hw1
  clear hcx hcy q0 q1 q2 hsz2 hb2 hb1 hV hU hgx hgy hw1 hw2 hsz1
  go_enter Tryz.func157, Tryz.ntmps157
  go_wp2_with fail
  rw [← HW1.out, ← HW2.out]
  obtain ⟨g, hg⟩ : ∃ g, g = w.heap.size + 1 + 1 + 1 := ⟨_, rfl⟩
  rw [← hg]
  obtain ⟨b2, hb2⟩ : ∃ b2, b2 = w.heap.size + 1 + 1 := ⟨_, rfl⟩
  rw [← hb2]
  obtain ⟨b1, hb1⟩ : ∃ b1, b1 = w.heap.size + 1 := ⟨_, rfl⟩
  rw [← hb1]
  obtain ⟨b0, hb0⟩ : ∃ b0, b0 = w.heap.size := ⟨_, rfl⟩
  have hg' : w.heap.size + 3 = g := by omega
  rw [hg'] at hrow HDX HDY
  have Q0 : Hid (∀ wr, Chg g w2 wr → wr.cell? ⟨b0, 1, none⟩ = some (.slice (some ⟨gx, px, none⟩) n cx) ∧ wr.cell? ⟨b0, 0, none⟩ = some (.bool nx)) := fun wr h => by
    have := HSZ.out
    have q : wr.heap[b0]? = some (.cells #[.bool nx, .slice (some ⟨gx, px, none⟩) n cx] 84 (0, 0)) := (h.block b0 (by omega) (by omega)).trans (by rw [hb0]; exact HQ0.out)
    exact ⟨(cell_of_row _ _ 1 _ _ (0, 0) q).trans rfl, (cell_of_row _ _ 0 _ _ (0, 0) q).trans rfl⟩
  have Q1 : Hid (∀ wr, Chg g w2 wr → wr.cell? ⟨b1, 1, none⟩ = some (.slice (some ⟨gy, py, none⟩) m cy) ∧ wr.cell? ⟨b1, 0, none⟩ = some (.bool ny)) := fun wr h => by
    have := HSZ.out
    have q : wr.heap[b1]? = some (.cells #[.bool ny, .slice (some ⟨gy, py, none⟩) m cy] 84 (0, 0)) := (h.block b1 (by omega) (by omega)).trans (by rw [hb1]; exact HQ1.out)
    exact ⟨(cell_of_row _ _ 1 _ _ (0, 0) q).trans rfl, (cell_of_row _ _ 0 _ _ (0, 0) q).trans rfl⟩
  have HG := Lib.hid hg; have HG2 := Lib.hid hb2; have HG1 := Lib.hid hb1; have HG0 := Lib.hid hb0; have HG' := Lib.hid hg'
  have HROW := Lib.hid hrow
  clear hg hb2 hb1 hb0 hg' hrow
  rw [show w.heap.size = b0 from HG0.out.symm]
  go_loopw [7] (fun i wr => ∃ k : Nat, ∃ D : Nat → Nat, k ≤ n ∧ i = .int .i64 k ∧ Row wr g 3 (n + m + 1) (fun j => .int .i64 (D j)) ∧ Hid (∀ j, j < n + m + 1 → D j = dg (U * (V % 2 ^ (8 * k))) j) ∧ Hid (Chg g w2 wr)) (fun i _ => n - (intOf i).toNat)
  case atStart => exact ⟨0, fun _ => 0, by omega, by simp, HROW.out, fun j hj => by simp [Nat.mod_one, dg], Chg.refl _ _⟩
  case round =>
    obtain ⟨i, D, hi, rfl, hr, HD, HCH⟩ := hrel
    have x1 := (Q0.out _ HCH.out).1
    by_cases hin : i < n
    · have HR := Lib.hid hr; clear hr
      go_wp2_with fail
      go_loopw [8, 9] (fun c k wi => ∃ c' k' : Nat, ∃ D' : Nat → Nat, c = .int .i64 c' ∧ k = .int .i64 k' ∧ (k' ≤ m ∨ (k' = m + 1 ∧ c' = 0)) ∧ Row wi g 3 (n + m + 1) (fun j => .int .i64 (D' j)) ∧ Hid (MulSt V U i k' c' (n + m + 1) D') ∧ Hid (Chg g w2 wi)) (fun _ k _ => m + 2 - (intOf k).toNat)
      case atStart => exact ⟨0, 0, D, by simp, by simp, by omega, HR.out, MulSt.start HD.out (by omega), HCH.out⟩
      case round =>
        obtain ⟨c, k, D', rfl, rfl, hkc, hri, HMS, HCI⟩ := hrel
        have y1 := (Q1.out _ HCI.out).1
        have x1' := (Q0.out _ HCI.out).1
        have hgo : (k < m ∨ 0 < c) ∨ (m ≤ k ∧ c = 0) := by omega
        rcases hgo with hgo | ⟨hkm, rfl⟩
        · have hik : i + k < n + m + 1 := by omega
          have hdl : D' (i + k) < 256 := by rw [HMS.out.high _ (Nat.le_refl _) hik]; exact dg_lt _ _
          have hcl := HMS.out.small
          obtain ⟨z, hz⟩ : ∃ z, z = dg V i * dg U k := ⟨_, rfl⟩
          have hz1 : (dg V i : Int) * (dg U k : Int) = (z : Int) := by rw [hz]; simp
          have hz2 : z ≤ 65025 := by rw [hz]; exact Nat.mul_le_mul (Nat.le_of_lt_succ (dg_lt V i)) (Nat.le_of_lt_succ (dg_lt U k))
          have hst := HMS.out.step hik (s := D' (i + k) + z + c) (by rw [hz])
          have hlast : k = m → D' (i + k) = 0 ∧ z = 0 := fun e => by
            subst e
            exact ⟨HMS.out.last HU.out hik, by rw [hz, dg_high HU.out (Nat.le_refl _)]; rfl⟩
          obtain ⟨q, hq⟩ : ∃ q, q = i + k := ⟨_, rfl⟩
          have hqi : (i : Int) + (k : Int) = (q : Int) := by omega
          have hcell := hri.cell hik
          have hfr := hri.frozen (i + k)
          rw [← hq] at hcell hfr hik hdl hst hlast
          have HQE := Lib.hid hq
          have hikz : (q : Int) < (n : Int) + (m : Int) + 1 := by omega
          have hwq : IntKind.i64.wrap (q : Int) = (q : Int) := by simp only [IntKind.wrap_i64]; omega
          have hwz : IntKind.i64.wrap (z : Int) = (z : Int) := by simp only [IntKind.wrap_i64]; omega
          have HST := Lib.hid hst; have HLA := Lib.hid hlast; have HZ := Lib.hid hz
          have HRI := Lib.hid hri
          have HX := Lib.hid (fun t => HDX.out _ (HCI.out.drewN t) i)
          have HY := Lib.hid (fun t => HDY.out _ (HCI.out.drewN t) k)
          have hvl := dg_lt V i
          have hul := dg_lt U k
          have hsum : (D' q : Int) + (z : Int) + (c : Int) = ((D' q + z + c : Nat) : Int) := by omega
          obtain ⟨s, hs⟩ : ∃ s, s = D' q + z + c := ⟨_, rfl⟩
          rw [← hs] at hsum
          have hsl : s < 65536 := by omega
          have hws : IntKind.i64.wrap (s : Int) = (s : Int) := by simp only [IntKind.wrap_i64]; omega
          have hwt : IntKind.i64.wrap ((D' q : Int) + (z : Int)) = (D' q : Int) + (z : Int) := by simp only [IntKind.wrap_i64]; omega
          have HS := Lib.hid hs
          clear hst hlast hz hri hs hq
          by_cases hkm : k < m
          · go_wp2_with fail
            go_quiet ((first | (go_at_call 167; with_reducible exact Calls.quiet_of (HX.out _)) | (go_at_call 167; with_reducible exact Calls.quiet_of (HY.out _))))
            go_wp2
            go_roundw
            case rel =>
              refine ⟨s / 256, k + 1, fun j => if j = q then s % 256 else D' j, by simp, by simp, ?_, ?_, ?_, (HCI.out.drewN nq).set q _⟩
              · first
                  | (left; omega)
                  | (right
                     have e : k = m := by omega
                     have h := HLA.out e
                     have h2 := HS.out
                     exact ⟨by omega, by omega⟩)
              · refine ((HRI.out.drewN nq).set q _).congr (fun j hj => ?_)
                show (if _ then _ else _) = _
                by_cases e : j = q
                · rw [if_pos e]; simp [e]
                · rw [if_neg e]; simp [e]
              · have h := HST.out
                rw [← HS.out] at h
                exact h
            case measure => simp [intOf]; omega
          · have hcp : 0 < c := by omega
            go_wp2_with fail
            go_quiet ((first | (go_at_call 167; with_reducible exact Calls.quiet_of (HX.out _)) | (go_at_call 167; with_reducible exact Calls.quiet_of (HY.out _))))
            go_wp2
            go_roundw
            case rel =>
              refine ⟨s / 256, k + 1, fun j => if j = q then s % 256 else D' j, by simp, by simp, ?_, ?_, ?_, (HCI.out.drewN nq).set q _⟩
              · first
                  | (left; omega)
                  | (right
                     have e : k = m := by omega
                     have h := HLA.out e
                     have h2 := HS.out
                     exact ⟨by omega, by omega⟩)
              · refine ((HRI.out.drewN nq).set q _).congr (fun j hj => ?_)
                show (if _ then _ else _) = _
                by_cases e : j = q
                · rw [if_pos e]; simp [e]
                · rw [if_neg e]; simp [e]
              · have h := HST.out
                rw [← HS.out] at h
                exact h
            case measure => simp [intOf]; omega
        · have hdone := Lib.hid (HMS.out.done HU.out hkm)
          have HRI := Lib.hid hri; clear hri
          go_wp2
          go_roundw
          case rel => exact ⟨i + 1, D', by omega, by go_num, HRI.out, hdone.out, HCI.out⟩
          case measure => simp [intOf]; omega
    · obtain rfl : i = n := by omega
      have HR := Lib.hid hr; clear hr
      have hxn : V % 2 ^ (8 * i) = V := Nat.mod_eq_of_lt HV.out
      have HDV : Hid (∀ j, j < i + m + 1 → D j = dg (V * U) j) := fun j hj => by rw [HD.out j hj, hxn, Nat.mul_comm]
      clear hxn
      have hrow2 := Row.made wr 5 (i + m) (.int .u8 0)
      have hbx : Below wr.heap.size wr (wr.alloc (.cells (madeCells #[.int .u8 0] (i + m)) 5)) := (Below.refl _ _).alloc (Nat.le_refl _) _
      go_wp2_with fail
      have HCW := Lib.hid HCH.out
      generalize wr.alloc (.cells (madeCells #[.int .u8 0] (i + m)) 5) = w3 at *
      obtain ⟨h, hh⟩ : ∃ h, h = wr.heap.size := ⟨_, rfl⟩
      rw [← hh] at hrow2 ⊢
      have HH := Lib.hid hh
      have hgh : g < h := by rw [hh]; exact HR.out.lt
      have HBX := Lib.hid hbx; have HROW2 := Lib.hid hrow2
      have hgd : Hid (∀ j, j < i + m + 1 → w3.cell? ⟨g, j, none⟩ = some (.int .i64 (dg (V * U) j))) := fun j hj => by
        rw [HBX.out.cell (p := ⟨g, j, none⟩) HR.out.lt, HR.out.cell hj, HDV.out j hj]
      clear hh hbx hrow2
      go_loopw [12] (fun t wq => ∃ k : Nat, ∃ f, k ≤ i + m ∧ t = .int .i64 k ∧ Row wq h 5 (i + m) f ∧ Hid (∀ j, j < k → f (i + m - 1 - j) = .int .u8 (dg (V * U) j)) ∧ Hid (Chg h w3 wq)) (fun t _ => i + m - (intOf t).toNat)
      case atStart => exact ⟨0, _, by omega, by simp, HROW2.out, fun j hj => by omega, Chg.refl _ _⟩
      case round =>
        obtain ⟨k, f, hk, rfl, hrq, HF, HCQ⟩ := hrel
        by_cases hkl : k < i + m
        · have cg : wr.cell? ⟨g, k, none⟩ = some (.int .i64 (dg (V * U) k)) := (HCQ.out.cell (p := ⟨g, k, none⟩) (by have := HR.out.lt; have := HBX.out.size; show g < _; omega) (by show g ≠ h; omega)).trans (hgd.out k (by omega))
          have c0 := hrq.cell (i := i + m - 1 - k) (by omega)
          have f0 := hrq.frozen (i + m - 1 - k)
          have hd := dg_lt (V * U) k
          have ei : ((i : Int) + (m : Int) - 1 - (k : Int)).toNat = i + m - 1 - k := by omega
          have HRQ := Lib.hid hrq; clear hrq
          go_wp2
          go_roundw
          case rel =>
            refine ⟨k + 1, _, by omega, by go_num, HRQ.out.set (i + m - 1 - k) _, fun j hj => ?_, HCQ.out.set _ _⟩
            show (if _ then _ else _) = _
            by_cases e : j = k
            · rw [if_pos (by omega), e]
            · rw [if_neg (by omega)]; exact HF.out j (by omega)
          case measure => simp [intOf]; omega
        · obtain rfl : k = i + m := by omega
          have hgB : w.heap.size ≤ g := by have := HG.out; omega
          have hwo := Chg.below HB2.out HB2.out.size HCW.out hgB
          have hw3 := hwo.trans (HBX.out.mono hwo.size)
          have hwq := Chg.below hw3 hw3.size HCQ.out (by have := HH.out; have := hwo.size; omega)
          have KB : ∀ b, b < w.heap.size + 3 → wr.heap[b]? = w2.heap[b]? := fun b hb => by
            have h1 := HSZ.out
            have h2 := HCW.out.size
            have h3 := HBX.out.size
            have h4 := HH.out
            have h5 := HG.out
            rw [HCQ.out.block b (by omega) (by omega), HBX.out.block b (by omega), HCW.out.block b (by omega) (by omega)]
          have hk0 : wr.heap[b0]? = some (.cells #[.bool nx, .slice (some ⟨gx, px, none⟩) i cx] 84 (0, 0)) := (KB _ (show b0 < _ by have := HG0.out; omega)).trans (by rw [HG0.out]; exact HQ0.out)
          have hk1 : wr.heap[b1]? = some (.cells #[.bool ny, .slice (some ⟨gy, py, none⟩) m cy] 84 (0, 0)) := (KB _ (show b1 < _ by have := HG1.out; omega)).trans (by rw [HG1.out]; exact HQ1.out)
          have hk2 : wr.heap[b2]? = some (.cells #[.bool false, .slice none 0 0] 84 (0, 0)) := (KB _ (show b2 < _ by have := HG2.out; omega)).trans (by rw [HG2.out]; exact HQ2.out)
          have x0 := (cell_of_row wr b0 0 _ _ (0, 0) hk0).trans rfl
          have y0 := (cell_of_row wr b1 0 _ _ (0, 0) hk1).trans rfl
          have hbyt : BytAt wr (.slice (some ⟨h, 0, none⟩) (i + m) (i + m)) (i + m) (V * U) := by
            refine ⟨?_, .inr ⟨by omega, h, 0, i + m, rfl, Nat.le_refl _, hrq.lt, fun j hj => ?_⟩⟩
            · rw [show 8 * (i + m) = 8 * i + 8 * m by omega, Nat.pow_add]
              exact Nat.mul_lt_mul_of_lt_of_le HV.out (Nat.le_of_lt HU.out) (Nat.two_pow_pos _)
            · have := HF.out (i + m - 1 - j) (by omega)
              rw [show i + m - 1 - (i + m - 1 - j) = j by omega] at this
              rw [Nat.zero_add, hrq.cell hj, this]
          have HOF := Lib.hid (Of_any (nx != ny) _ _ _ _ hbyt (by omega))
          have HWQ := Lib.hid hwq
          have HK2 := Lib.hid hk2
          have hbl : b2 < wr.heap.size := (Array.getElem?_eq_some_iff.1 hk2).1
          clear hbyt hwq hw3 hwo KB hk0 hk1 hk2 hrq
          go_wp2_with fail
          refine HOF.out.mono ?_
          rintro e w5 ⟨s5, l, rfl, hl, hn5⟩
          obtain ⟨a5, c5, rfl⟩ := hn5.1.shape
          have hR := (hn5.2.2.block b2 hbl).trans HK2.out
          have hne : ∀ b k c', Value.slice a5 l c5 = .slice (some b) k c' → 0 < l → b.block ≠ b2 := fun b k c' e h0 => by have := hn5.2.1 b k c' e h0; omega
          have HN := Lib.hid (hn5.from HWQ.out)
          have HNE := Lib.hid hne
          have HR5 := Lib.hid hR
          have hBB : w.heap.size ≤ b2 := by have := HG2.out; omega
          have HBB := Lib.hid hBB
          have z0 := (cell_of_row w5 _ 0 _ _ (0, 0) hR).trans rfl
          have z1 := (cell_of_row w5 _ 1 _ _ (0, 0) hR).trans rfl
          have f0 : ∀ i, w5.frozen? ⟨b2, i, none⟩ = false := fun i => by simp [World.frozen?, hR]
          obtain ⟨ng, hng⟩ : ∃ ng, ng = ((nx != ny) && decide (0 < V * U)) := ⟨_, rfl⟩
          rw [← hng]
          have HNG := Lib.hid hng
          clear hn5 hR hne hBB hng
          go_wp2
          have hW := set1 (i := 1) (x := .slice a5 l c5) (set1 (i := 0) (x := .bool ng) HR5.out)
          have e0 := (cell_of_row _ _ 0 _ _ (0, 0) hW).trans rfl
          have e1 := (cell_of_row _ _ 1 _ _ (0, 0) hW).trans rfl
          refine bodyPost_ret (v := .agg #[.bool ng, .slice a5 l c5]) (by simp [results, Tryz.results157, go_sem, e0, e1]) rfl ⟨_, l, ?_, hl, (HN.out.put HBB.out HNE.out _).put HBB.out HNE.out _⟩
          rw [← HNG.out]

end Go.Proofs.YtpcleebnfgnhdaaGreatDoor

/- Walks: spec.Int.Lsh, spec.Whole. -/
set_option linter.unusedVariables false
set_option linter.unusedSimpArgs false
namespace Go.Proofs.YtpcleebnfgnhdaaGreatDoor
open Go.RowKit
open Num

theorem Mul_mag (nx ny : Bool) (s t : Value) (n V m U : Nat) (w : World) (hs : MagAt w s n V) (ht : MagAt w t m U) (h0 : 0 < n) (h1 : 0 < m) (hn : n ≤ 16777216) (hm : m ≤ 16777216) :
    Calls Tryz.prog 157 #[.agg #[.bool nx, s], .agg #[.bool ny, t]] w fun e w' => ∃ s l, e = .returned (.agg #[.bool ((nx != ny) && decide (0 < V * U)), s]) ∧ l ≤ n + m ∧ NewMag w w' s l (V * U) := by
  rcases hs.2 with ⟨h, _⟩ | ⟨_, g, p, c, rfl, hnc, hg, hc⟩
  · omega
  · rcases ht.2 with ⟨h, _⟩ | ⟨_, g2, p2, c2, rfl, hnc2, hg2, hc2⟩
    · omega
    · exact Mul_some nx ny g p c n V g2 p2 c2 m U w h0 h1 hn hm hs.1.1 ht.1.1 hg hg2 hc hc2

theorem Lsh_any (neg : Bool) (s : Value) (n V k : Nat) (w : World) (h : MagAt w s n V) (hn : n ≤ 16777216) (hk : k ≤ 65536) :
    Calls Tryz.prog 149 #[.agg #[.bool neg, s], .int .i64 k] w fun e w' => ∃ s' m, e = .returned (.agg #[.bool (neg && decide (0 < V)), s']) ∧ m ≤ n + k / 8 + 1 ∧ NewMag w w' s' m (V * 2 ^ k) := by
  obtain ⟨a, c, rfl⟩ := h.shape
  obtain ⟨w1, hw1⟩ : ∃ w1, w1 = (w.alloc (.cells #[.bool neg, .slice a n c] 84)).alloc (.cells #[.bool false, .slice none 0 0] 84) := ⟨_, rfl⟩
  have hb1 : Below w.heap.size w w1 := by rw [hw1]; exact ((Below.refl _ _).alloc (Nat.le_refl _) _).alloc (by simp) _
  have hsz1 : w1.heap.size = w.heap.size + 2 := by rw [hw1]; simp
  have q0 : w1.heap[w.heap.size]? = some (.cells #[.bool neg, .slice a n c] 84 (0, 0)) := by rw [hw1]; exact heap2_0 _ _ _
  have q1 : w1.heap[w.heap.size + 1]? = some (.cells #[.bool false, .slice none 0 0] 84 (0, 0)) := by rw [hw1]; exact heap2_1 _ _ _
  have HZ := Lib.hid (Zero_any neg (.slice a n c) n V w1 (h.below hb1))
  have HM := Lib.hid h
  have HB := Lib.hid hb1
  have HW := Lib.hid hw1
  have HSZ := Lib.hid hsz1
  have HQ0 := Lib.hid q0
  have HQ1 := Lib.hid q1
  have hz := h.1.zero_iff
  clear h hb1 hw1 hsz1 q0 q1
  by_cases h0 : n = 0
  · subst h0
    obtain rfl : V = 0 := hz.1 rfl
    go_enter Tryz.func149, Tryz.ntmps149
    go_wp2_with fail
    rw [← HW.out]
    refine HZ.out.mono ?_
    rintro e w2 ⟨rfl, rfl⟩
    have hR := (heap_alloc_old w1 (.cells #[.bool neg, .slice a 0 c] 84) (show w.heap.size + 1 < w1.heap.size by have := HSZ.out; omega)).trans HQ1.out
    have hb2 : Below w.heap.size w (w1.alloc (.cells #[.bool neg, .slice a 0 c] 84)) := HB.out.alloc (by have := HSZ.out; omega) _
    have c0 := (cell_of_row _ _ 0 _ _ (0, 0) hR).trans rfl
    have c1 := (cell_of_row _ _ 1 _ _ (0, 0) hR).trans rfl
    have HR := Lib.hid hR
    have HB2 := Lib.hid hb2
    have f0 : ∀ i, (w1.alloc (.cells #[.bool neg, .slice a 0 c] 84)).frozen? ⟨w.heap.size + 1, i, none⟩ = false := fun i => by simp [World.frozen?, hR]
    clear hR hb2 hz
    generalize w1.alloc (.cells #[.bool neg, .slice a 0 c] 84) = w2 at *
    go_wp2
    have hW := set1 (i := 1) (x := .slice none 0 0) (set1 (i := 0) (x := .bool false) HR.out)
    have e0 := (cell_of_row _ _ 0 _ _ (0, 0) hW).trans rfl
    have e1 := (cell_of_row _ _ 1 _ _ (0, 0) hW).trans rfl
    refine bodyPost_ret (v := .agg #[.bool false, .slice none 0 0]) (by simp [results, Tryz.results149, go_sem, e0, e1]) rfl ⟨.slice none 0 0, 0, by simp, by omega, ⟨⟨by simp, fun h => absurd h (by omega)⟩, .inl ⟨rfl, _, _, rfl⟩⟩, fun _ _ _ _ h => absurd h (by omega), (HB2.out.setCell (by simp) _).setCell (by simp) _⟩
  · have hV : 0 < V := by
      rcases Nat.eq_zero_or_pos V with h | h
      · exact absurd (hz.2 h) h0
      · exact h
    go_enter Tryz.func149, Tryz.ntmps149
    go_wp2_with fail
    rw [← HW.out]
    refine HZ.out.mono ?_
    rintro e w2 ⟨rfl, rfl⟩
    go_wp2_with fail
    obtain ⟨w2, hw2⟩ : ∃ w2, w2 = w1.alloc (.cells #[.bool neg, .slice a n c] 84) := ⟨_, rfl⟩
    rw [← hw2]
    have hbw : Below w1.heap.size w1 w2 := by rw [hw2]; exact (Below.refl _ _).alloc (Nat.le_refl _) _
    have hb2 : Below w.heap.size w w2 := HB.out.trans (hbw.mono (by have := HSZ.out; omega))
    have hsz2 : w.heap.size + 2 ≤ w2.heap.size := by have := hbw.size; have := HSZ.out; omega
    have hq0 := (hbw.block w.heap.size (by have := HSZ.out; omega)).trans HQ0.out
    have hq1 := (hbw.block (w.heap.size + 1) (by have := HSZ.out; omega)).trans HQ1.out
    have hm2 := HM.out.below hb2
    have z0 := (cell_of_row w2 _ 0 _ _ (0, 0) hq0).trans rfl
    have z1 := (cell_of_row w2 _ 1 _ _ (0, 0) hq0).trans rfl
    have HW2 := Lib.hid hw2
    have HB2 := Lib.hid hb2
    have HS2 := Lib.hid hsz2
    have HP0 := Lib.hid hq0
    have HP1 := Lib.hid hq1
    have HM2 := Lib.hid hm2
    have HPOW := Lib.hid (Power_any k (by omega) w2.drew)
    have HV := Lib.hid hV
    have HN0 := Lib.hid h0
    clear hw2 hbw hb2 hsz2 hq0 hq1 hm2 hz hV
    go_region_law (first | (go_simp; go_at_call 158; refine HPOW.out.mono ?_; rintro e w3 ⟨s3, m3, rfl, hm3, hn3⟩; obtain ⟨a3, c3, rfl⟩ := hn3.1.shape; have hp3 : m3 ≠ 0 := (fun e => absurd (hn3.1.1.zero_iff.1 e) (Nat.ne_of_gt (Nat.two_pow_pos k))); have HML := Lib.hid (Mul_mag neg false (.slice a n c) (.slice a3 m3 c3) n V m3 (2 ^ k) w3 (HM2.out.below (below_undrew hn3.2.2)) hn3.1 (by omega) (by omega) hn (by omega)); have HN3 := Lib.hid hn3; have R0 := Lib.hid ((hn3.2.2.block w.heap.size (by have := HS2.out; show _ < w2.heap.size; omega)).trans HP0.out); have R1 := Lib.hid ((hn3.2.2.block (w.heap.size + 1) (by have := HS2.out; show _ < w2.heap.size; omega)).trans HP1.out); have y0 := (cell_of_row w3 _ 0 _ _ (0, 0) R0.out).trans rfl; have y1 := (cell_of_row w3 _ 1 _ _ (0, 0) R0.out).trans rfl; have HM3 := Lib.hid hm3; clear hn3 hp3 hm3) | (go_simp; go_at_call 157; refine HML.out.mono ?_; rintro e w4 ⟨s4, l, rfl, hl, hn4⟩; obtain ⟨a4, c4, rfl⟩ := hn4.1.shape; have S1 := Lib.hid ((hn4.2.2.block (w.heap.size + 1) (Array.getElem?_eq_some_iff.1 R1.out).1).trans R1.out); have u0 := (cell_of_row w4 _ 0 _ _ (0, 0) S1.out).trans rfl; have u1 := (cell_of_row w4 _ 1 _ _ (0, 0) S1.out).trans rfl; have f0 : ∀ i, w4.frozen? ⟨w.heap.size + 1, i, none⟩ = false := (fun i => by simp [World.frozen?, S1.out]); obtain ⟨ng, hng⟩ : ∃ ng, ng = ((neg != false) && decide (0 < V * 2 ^ k)) := ⟨_, rfl⟩; rw [← hng]; have HNG := Lib.hid hng; have HN4 := Lib.hid hn4; have HL := Lib.hid hl; clear hn4 hng hl))
    all_goals (
      go_wp2
      have hW := set1 (i := 1) (x := .slice a4 l c4) (set1 (i := 0) (x := .bool ng) S1.out)
      have e0 := (cell_of_row _ _ 0 _ _ (0, 0) hW).trans rfl
      have e1 := (cell_of_row _ _ 1 _ _ (0, 0) hW).trans rfl
      have hs3 : w.heap.size + 2 ≤ w3.heap.size := Nat.le_trans HS2.out HN3.out.2.2.size
      have hbw : Below w.heap.size w w3 := HB2.out.trans ((below_undrew HN3.out.2.2).mono (by have := HS2.out; show w.heap.size ≤ w2.heap.size; omega))
      have hne : ∀ b k c', Value.slice a4 l c4 = .slice (some b) k c' → 0 < l → b.block ≠ w.heap.size + 1 := fun b k c' e h0 => by have := HN4.out.2.1 b k c' e h0; omega
      have hM3 := HM3.out
      have hL := HL.out
      refine bodyPost_ret (v := .agg #[.bool ng, .slice a4 l c4]) (by simp [results, Tryz.results149, go_sem, e0, e1]) rfl ⟨_, l, ?_, by omega, ((HN4.out.from hbw).put (by omega) hne _).put (by omega) hne _⟩
      rw [HNG.out]
      have hp : 0 < V * 2 ^ k := Nat.mul_pos HV.out (Nat.two_pow_pos k)
      simp [hp, HV.out])

theorem bytesOf_Of (neg : Bool) (s : Value) (U : Nat) (w : World) (h : BytAt w s 8 U) :
    Calls Tryz.prog 41 #[.bool neg, s] w fun e w' => ∃ s' m, e = .returned (.agg #[.bool (neg && decide (0 < U)), s']) ∧ m ≤ 8 ∧ NewMag w w' s' m U := Of_any neg s 8 U w h (by omega)

theorem Whole_any (B : Nat) (hB : B < 18446744073709551616) (hf : fexp B ≠ 2047) (w : World) :
    Calls Tryz.prog 127 #[.float .f64 B] w fun e w' => ∃ s m b, e = .returned (.tuple #[.agg #[.bool (fneg B && decide (0 < fwhole B)), s], .bool b]) ∧ m ≤ 4096 ∧ MagAt w' s m (fwhole B) ∧ Below w.heap.size w w' := by
  have HP := Lib.hid (fun W : World => floatParts_any B hB W)
  have hM := fman_lt B
  go_enter Tryz.func127, Tryz.ntmps127
  go_wp2_with fail
  refine (HP.out _).mono ?_
  rintro e w1 ⟨rfl, rfl⟩
  go_wp2_with fail
  refine (bytesOf_any (fman B) (by omega) _).mono ?_
  rintro e w2 ⟨rfl, hby, hb2⟩
  have hb0 : Below w.heap.size w (w.alloc (.cells #[.bool false, .slice none 0 0] 84)) := (Below.refl _ _).alloc (Nat.le_refl _) _
  have hq0 := (hb2.block w.heap.size (by simp)).trans (heap_alloc_new w _)
  have hb3 := hb0.trans (hb2.mono (by simp))
  have hs2 : w.heap.size + 1 ≤ w2.heap.size := by have := hb2.size; simpa using this
  rw [World.size_alloc] at hby
  have HOF := Lib.hid (Of_any (fneg B) _ 8 (fman B) _ hby (by omega))
  have HQ0 := Lib.hid hq0; have HB3 := Lib.hid hb3; have HS2 := Lib.hid hs2
  clear hb0 hq0 hb3 hs2 hby hb2
  go_wp2_with fail
  refine HOF.out.mono ?_
  rintro e w3 ⟨s3, m3, rfl, hm3, hn3⟩
  obtain ⟨a3, c3, rfl⟩ := hn3.1.shape
  obtain ⟨ng, hng⟩ : ∃ ng, ng = (fneg B && decide (0 < fman B)) := ⟨_, rfl⟩
  rw [← hng]
  have HNG := Lib.hid hng
  have HM3 := Lib.hid hn3.1
  have hb4 : Below w.heap.size w w3 := HB3.out.trans (hn3.2.2.mono (by have := HS2.out; omega))
  have hs3 : w.heap.size + 1 ≤ w3.heap.size := Nat.le_trans HS2.out hn3.2.2.size
  have hq3 := (hn3.2.2.block w.heap.size (by have := HS2.out; omega)).trans HQ0.out
  have HB4 := Lib.hid hb4; have HS3 := Lib.hid hs3; have HQ3 := Lib.hid hq3
  clear hng hn3 hb4 hs3 hq3
  have hbw : Below w3.heap.size w3 (w3.alloc (.cells #[.bool ng, .slice a3 m3 c3] 84)) := (Below.refl _ _).alloc (Nat.le_refl _) _
  have hM4 := HM3.out.below hbw
  have hq4 := (hbw.block w.heap.size (by have := HS3.out; omega)).trans HQ3.out
  have hb5 : Below w.heap.size w (w3.alloc (.cells #[.bool ng, .slice a3 m3 c3] 84)) := HB4.out.alloc (by have := HS3.out; omega) _
  have HM4 := Lib.hid hM4; have HQ4 := Lib.hid hq4; have HB5 := Lib.hid hb5
  clear hbw hM4 hq4 hb5
  by_cases hp : 0 ≤ fplace B
  · obtain ⟨k, hk⟩ := Int.eq_ofNat_of_zero_le hp
    have hkb : k ≤ 971 := by
      have h1 := fexp_lt B
      unfold fplace at hk
      split at hk <;> omega
    have hhi := fplace_hi hp
    have hfw : fwhole B = fman B * 2 ^ k := by unfold fwhole; rw [if_pos hp, hk]; rfl
    have hL := Lsh_any ng (.slice a3 m3 c3) m3 (fman B) k _ HM4.out (by omega) (by omega)
    have HL := Lib.hid hL
    have hd : decide (0 < fman B) = true := by simp; omega
    have hd2 : decide (0 < fwhole B) = true := by rw [hfw]; exact decide_eq_true (Nat.mul_pos (by omega) (Nat.two_pow_pos k))
    have HFW := Lib.hid hfw; have HD := Lib.hid hd; have HD2 := Lib.hid hd2; have HHI := Lib.hid hhi
    clear hL hfw hd hd2 hhi hp
    go_wp2_with fail
    refine HL.out.mono ?_
    rintro e w5 ⟨s5, m5, rfl, hm5, hn5⟩
    obtain ⟨a5, c5, rfl⟩ := hn5.1.shape
    have hR := (hn5.2.2.block w.heap.size (Array.getElem?_eq_some_iff.1 HQ4.out).1).trans HQ4.out
    have hne : ∀ b k c', Value.slice a5 m5 c5 = .slice (some b) k c' → 0 < m5 → b.block ≠ w.heap.size := fun b k c' e h0 => by
      have := hn5.2.1 b k c' e h0
      have h3 := HS3.out
      simp at this
      omega
    have HN := Lib.hid (hn5.from HB5.out)
    have HNE := Lib.hid hne; have HR := Lib.hid hR
    have z0 := (cell_of_row w5 _ 0 _ _ (0, 0) hR).trans rfl
    have z1 := (cell_of_row w5 _ 1 _ _ (0, 0) hR).trans rfl
    have f0 : ∀ i, w5.frozen? ⟨w.heap.size, i, none⟩ = false := fun i => by simp [World.frozen?, hR]
    rw [HD.out]
    clear hn5 hne hR
    go_wp2
    have hW := set1 (i := 1) (x := .slice a5 m5 c5) (set1 (i := 0) (x := .bool ng) HR.out)
    have e0 := (cell_of_row _ _ 0 _ _ (0, 0) hW).trans rfl
    have e1 := (cell_of_row _ _ 1 _ _ (0, 0) hW).trans rfl
    have hfin := (HN.out.put (Nat.le_refl _) (o := 0) HNE.out (.bool ng)).put (Nat.le_refl _) (o := 1) HNE.out (.slice a5 m5 c5)
    rw [← HFW.out] at hfin
    refine bodyPost_ret (v := .tuple #[.agg #[.bool ng, .slice a5 m5 c5], .bool true]) (by simp [results, Tryz.results127, go_sem, e0, e1]) rfl ⟨_, m5, true, ?_, by omega, hfin.1, hfin.2.2⟩
    rw [HNG.out, HD2.out, HD.out]
  · by_cases hq : fplace B < -63
    · have hfw : fwhole B = 0 := by
        unfold fwhole
        rw [if_neg hp]
        refine Nat.div_eq_of_lt (Nat.lt_of_lt_of_le hM ?_)
        have : 2 ^ 53 ≤ 2 ^ (-fplace B).toNat := Nat.pow_le_pow_right (by omega) (by omega)
        simpa using this
      have HFW := Lib.hid hfw
      have z0 := (cell_of_row _ _ 0 _ _ (0, 0) HQ4.out).trans rfl
      have z1 := (cell_of_row _ _ 1 _ _ (0, 0) HQ4.out).trans rfl
      have f0 : ∀ i, (w3.alloc (.cells #[.bool ng, .slice a3 m3 c3] 84)).frozen? ⟨w.heap.size, i, none⟩ = false := fun i => by simp [World.frozen?, HQ4.out]
      have hlt : 0 < w3.heap.size := by have := HS3.out; omega
      clear hfw hp
      go_wp2
      have hW := set1 (i := 1) (x := .slice none 0 0) (set1 (i := 0) (x := .bool false) HQ4.out)
      have e0 := (cell_of_row _ _ 0 _ _ (0, 0) hW).trans rfl
      have e1 := (cell_of_row _ _ 1 _ _ (0, 0) hW).trans rfl
      refine bodyPost_ret (v := .tuple #[.agg #[.bool false, .slice none 0 0], .bool ((fman B : Int) == 0)]) (by simp [results, Tryz.results127, go_sem, e0, e1]) rfl ⟨.slice none 0 0, 0, ((fman B : Int) == 0), ?_, by omega, ?_, (HB5.out.setCell (by simp) _).setCell (by simp) _⟩
      · rw [HFW.out]; simp
      · rw [HFW.out]; exact ⟨⟨by simp, fun h => absurd h (by omega)⟩, .inl ⟨rfl, _, _, rfl⟩⟩
    · have hsh : (fman B : Int) / 2 ^ (-fplace B).toNat = (fwhole B : Int) := by
        unfold fwhole
        rw [if_neg hp]
        simp
      have hfl : fwhole B < 18446744073709551616 := by
        unfold fwhole
        rw [if_neg hp]
        exact Nat.lt_of_le_of_lt (Nat.div_le_self _ _) (by omega)
      have hs3 := HS3.out
      have HBY := Lib.hid (bytesOf_any (fwhole B) hfl (w3.alloc (.cells #[.bool ng, .slice a3 m3 c3] 84)))
      have HFL := Lib.hid hfl
      obtain ⟨x, hx⟩ : ∃ x, bits .and .u64 (fman B : Int) (IntKind.u64.wrap (IntKind.u64.wrap (2 ^ (-fplace B).toNat) - 1)) = x := ⟨_, rfl⟩
      clear hfl
      go_wp2_with fail
      refine HBY.out.mono ?_
      rintro e w5 ⟨rfl, hby5, hb6⟩
      have hb7 := HB5.out.trans (hb6.mono (by simp; omega))
      have hq5 := (hb6.block w.heap.size (Array.getElem?_eq_some_iff.1 HQ4.out).1).trans HQ4.out
      have hs5 : w3.heap.size + 1 ≤ w5.heap.size := by have := hb6.size; simpa using this
      rw [World.size_alloc] at hby5
      have HOF2 := Lib.hid (Of_any (fneg B) _ 8 (fwhole B) _ hby5 (by omega))
      have HB7 := Lib.hid hb7; have HQ5 := Lib.hid hq5; have HS5 := Lib.hid hs5
      clear hby5 hb6 hb7 hq5 hs5
      go_wp2_with fail
      refine HOF2.out.mono ?_
      rintro e w6 ⟨s6, m6, rfl, hm6, hn6⟩
      obtain ⟨a6, c6, rfl⟩ := hn6.1.shape
      have hR := (hn6.2.2.block w.heap.size (Array.getElem?_eq_some_iff.1 HQ5.out).1).trans HQ5.out
      have hne : ∀ b k c', Value.slice a6 m6 c6 = .slice (some b) k c' → 0 < m6 → b.block ≠ w.heap.size := fun b k c' e h0 => by
        have := hn6.2.1 b k c' e h0
        have h5 := HS5.out
        omega
      have HN := Lib.hid (hn6.from HB7.out)
      have HNE := Lib.hid hne; have HR := Lib.hid hR
      have z0 := (cell_of_row w6 _ 0 _ _ (0, 0) hR).trans rfl
      have z1 := (cell_of_row w6 _ 1 _ _ (0, 0) hR).trans rfl
      have f0 : ∀ i, w6.frozen? ⟨w.heap.size, i, none⟩ = false := fun i => by simp [World.frozen?, hR]
      obtain ⟨ng2, hng2⟩ : ∃ ng2, ng2 = (fneg B && decide (0 < fwhole B)) := ⟨_, rfl⟩
      rw [← hng2]
      have HNG2 := Lib.hid hng2
      clear hn6 hne hR hng2
      go_wp2
      have hW := set1 (i := 1) (x := .slice a6 m6 c6) (set1 (i := 0) (x := .bool ng2) HR.out)
      have e0 := (cell_of_row _ _ 0 _ _ (0, 0) hW).trans rfl
      have e1 := (cell_of_row _ _ 1 _ _ (0, 0) hW).trans rfl
      have hfin := (HN.out.put (Nat.le_refl _) (o := 0) HNE.out (.bool ng2)).put (Nat.le_refl _) (o := 1) HNE.out (.slice a6 m6 c6)
      rw [← HNG2.out]
      exact bodyPost_ret (v := .tuple #[.agg #[.bool ng2, .slice a6 m6 c6], .bool (x == 0)]) (by simp [results, Tryz.results127, go_sem, e0, e1]) rfl ⟨_, m6, _, rfl, by omega, hfin.1, hfin.2.2⟩

end Go.Proofs.YtpcleebnfgnhdaaGreatDoor
