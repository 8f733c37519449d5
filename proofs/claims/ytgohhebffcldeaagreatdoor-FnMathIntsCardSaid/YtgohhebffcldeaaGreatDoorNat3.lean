/- Walks: nat.setBytes: the words of a number out of its bytes. -/
import Derived.Test.YtgohhebffcldeaaGreatDoorNat2
set_option linter.unusedVariables false
set_option linter.unusedSimpArgs false
namespace Go.Proofs.YtgohhebffcldeaaGreatDoor
open Go.RowKit
open Num

theorem word_any (g o c V k : Nat) (w : World) (hnc : 8 ≤ c)
    (hc : ∀ j, j < 8 → w.cell? ⟨g, o + j, none⟩ = some (.int .u8 (dg V (8 * k + 7 - j) : Int))) :
    Calls Tryz.prog 154 #[.slice (some ⟨g, o, none⟩) 8 c] w fun e w' => e = .returned (.int .u64 (wd V k : Int)) ∧ ∃ k, w' = w.drewN k := by
  have H := beUint64_any g o 8 c (fun j => dg V (8 * k + 7 - j)) w (by omega) hnc (by omega) (fun j => dg_lt _ _) hc
  have e : 4294967296 * (dg V (8 * k + 7 - 3) + 256 * dg V (8 * k + 7 - 2) + 65536 * dg V (8 * k + 7 - 1) + 16777216 * dg V (8 * k + 7 - 0)) + (dg V (8 * k + 7 - 7) + 256 * dg V (8 * k + 7 - 6) + 65536 * dg V (8 * k + 7 - 5) + 16777216 * dg V (8 * k + 7 - 4)) = wd V k := by
    rw [wd_of_dg, show 8 * k + 7 - 3 = 8 * k + 4 by omega, show 8 * k + 7 - 2 = 8 * k + 5 by omega, show 8 * k + 7 - 1 = 8 * k + 6 by omega, show 8 * k + 7 - 0 = 8 * k + 7 by omega, show 8 * k + 7 - 7 = 8 * k by omega, show 8 * k + 7 - 6 = 8 * k + 1 by omega, show 8 * k + 7 - 5 = 8 * k + 2 by omega, show 8 * k + 7 - 4 = 8 * k + 3 by omega]
    omega
  simp only [e] at H
  have HH := Lib.hid H; clear H e
  go_enter Tryz.func154, Tryz.ntmps154
  go_wp2_with fail
  refine HH.out.mono ?_
  rintro e w' ⟨rfl, q, rfl⟩
  go_wp2
  go_ret
  exact ⟨rfl, _, rfl⟩

theorem or_pd (V k t : Nat) (ht : t < 8) : bits .or .u64 (pd V k t : Int) (IntKind.u64.wrap ((dg V (8 * k + t) : Int) * 2 ^ (8 * t))) = (pd V k (t + 1) : Int) := by
  have hd := dg_lt V (8 * k + t)
  have hp := pd_lt V k t
  have h1 : 2 ^ (8 * t) ≤ 2 ^ 56 := Nat.pow_le_pow_right (by omega) (by omega)
  have h2 : dg V (8 * k + t) * 2 ^ (8 * t) ≤ 255 * 2 ^ 56 := Nat.mul_le_mul (by omega) h1
  have e : ((dg V (8 * k + t) : Int) * 2 ^ (8 * t)) = ((dg V (8 * k + t) * 2 ^ (8 * t) : Nat) : Int) := by simp
  rw [e, pd_succ]
  generalize dg V (8 * k + t) * 2 ^ (8 * t) = x at *
  generalize 2 ^ (8 * t) = y at *
  generalize pd V k t = z at *
  have hw : IntKind.u64.wrap (x : Int) = (x : Int) := by
    simp only [IntKind.wrap_u64]; omega
  rw [hw]
  exact u64_or_nat z x (by omega) (by omega)

theorem norm_row {g c m V : Nat} {w : World} {f : Nat → Value} (hr : Row w g 228 c f) (hf : ∀ i, i < m → f i = .int .u64 (wd V i)) (hV : V < 2 ^ (64 * m)) (hm : m ≤ c) (hc : m ≤ 2147483648) :
    Calls Tryz.prog 155 #[.slice (some ⟨g, 0, none⟩) m c] w fun e w' => (∃ m', m' ≤ m ∧ Nw m' V ∧ e = .returned (.slice (some ⟨g, 0, none⟩) m' c)) ∧ w = w' :=
  norm_some g 0 c m V w hV (by omega) hm (fun i hi => by rw [Nat.zero_add, hr.cell (by omega), hf i hi])

theorem setBytes_some (gx ox cx n V : Nat) (w : World) (hV : V < 2 ^ (8 * n)) (h0 : 0 < n) (hn : n ≤ 2147483647) (hnc : n ≤ cx) (hg : gx < w.heap.size)
    (hc : ∀ i, i < n → w.cell? ⟨gx, ox + i, none⟩ = some (.int .u8 (dg V (n - 1 - i)))) :
    Calls Tryz.prog 126 #[.slice none 0 0, .slice (some ⟨gx, ox, none⟩) n cx] w fun e w' => ∃ m g c, g = w.heap.size ∧ Nw m V ∧ m ≤ c ∧ c ≤ 2147483647 ∧ e = .returned (.slice (some ⟨g, 0, none⟩) m c) ∧ Below w.heap.size w w' ∧
      (∃ f, Row w' g 228 c f ∧ ∀ i, i < m → f i = .int .u64 (wd V i)) := by
  obtain ⟨m, hm⟩ : ∃ m, m = (n + 7) / 8 := ⟨_, rfl⟩
  have hm1 : n ≤ 8 * m := by omega
  have hm2 : 8 * m ≤ n + 7 := by omega
  have hmi : ((n : Int) + 8 - 1) / 8 = (m : Int) := by omega
  clear hm
  go_enter Tryz.func126, Tryz.ntmps126
  go_wp2_with fail
  refine (make_gt _ _ _ m _ (by omega) (by omega)).mono ?_
  rintro e w' ⟨c, hc1, ⟨hc2, _⟩, rfl, rfl⟩
  have hrow := Row.made w 228 c (.int .u64 0)
  have hb1 : Below w.heap.size w (w.alloc (.cells (madeCells #[.int .u64 0] c) 228)) := (Below.refl _ _).alloc (Nat.le_refl _) _
  obtain ⟨g, hgg⟩ : ∃ g, g = w.heap.size := ⟨_, rfl⟩
  rw [← hgg] at hrow ⊢
  have HG := Lib.hid hgg; clear hgg
  have HMI := Lib.hid hmi; clear hmi
  have hgx : gx ≠ g := by have := HG.out; omega
  have HC := Lib.hid hc; clear hc
  generalize w.alloc (.cells (madeCells #[.int .u64 0] c) 228) = w1 at *
  have hgw : gx < w1.heap.size := Nat.lt_of_lt_of_le hg hb1.size
  go_wp2_with fail
  go_loopw [5, 6] (fun i k wr => ∃ k' : Nat, ∃ f, 8 * k' ≤ n ∧ i = .int .i64 ((n : Int) - 8 * k') ∧ k = .int .i64 k' ∧ Row wr g 228 c f ∧ (∀ i, i < k' → f i = .int .u64 (wd V i)) ∧ Chg g w1 wr) (fun i _ _ => (intOf i).toNat)
  case atStart => exact ⟨0, _, by omega, by simp, rfl, hrow, fun i hi => absurd hi (by omega), Chg.refl _ _⟩
  case round =>
    obtain ⟨k, f, hk, rfl, rfl, hr, hf, hch⟩ := hrel
    have hcell : ∀ i, i < n → wr.cell? ⟨gx, ox + i, none⟩ = some (.int .u8 (dg V (n - 1 - i))) := fun i hi => by
      rw [hch.cell (p := ⟨gx, ox + i, none⟩) hgw hgx, hb1.cell (p := ⟨gx, ox + i, none⟩) hg]; exact HC.out i hi
    have HF := Lib.hid hf; clear hf
    by_cases h8 : 8 ≤ n - 8 * k
    · have hkc : k < c := by omega
      have ck := hr.cell hkc
      have fk := hr.frozen k
      have HW := word_any gx (ox + (n - 8 * k - 8)) (cx - (n - 8 * k - 8)) V k wr (by omega) (fun j hj => by
        have := hcell (n - 8 * k - 8 + j) (by omega)
        rw [show n - 1 - (n - 8 * k - 8 + j) = 8 * k + 7 - j by omega] at this
        simpa [Nat.add_assoc] using this)
      have HWW := Lib.hid HW; clear HW
      have HCC := Lib.hid hcell; clear hcell
      have HR := Lib.hid hr; clear hr
      go_wp2_with fail
      rw [show n - 8 * k - (n - 8 * k - 8) = 8 by omega]
      refine HWW.out.mono ?_
      rintro e w' ⟨rfl, q, rfl⟩
      go_wp2
      go_roundw
      case rel => exact ⟨k + 1, _, by omega, by go_num, by go_num, (HR.out.drewN q).set k _, fun i hi => by
          by_cases e : i = k
          · rw [if_pos e, e]
          · rw [if_neg e]; exact HF.out i (by omega), (hch.drewN q).set k _⟩
      case measure => simp [intOf]; omega
    · have HCC := Lib.hid hcell; clear hcell
      have HR := Lib.hid hr; clear hr
      by_cases hz : n - 8 * k = 0
      · have hnk : n = 8 * k := by omega
        subst hnk
        have hmk : m = k := by omega
        subst hmk
        have HN := Lib.hid (norm_row HR.out HF.out (show V < 2 ^ (64 * m) by rw [show 64 * m = 8 * (8 * m) by omega]; exact hV) (by omega) (by omega))
        go_wp2_with fail
        refine HN.out.mono ?_
        rintro e w' ⟨⟨m', hm', hNw, rfl⟩, rfl⟩
        go_wp2
        go_ret
        exact ⟨m', g, c, HG.out, hNw, by omega, by omega, rfl, Chg.below hb1 hb1.size hch (by rw [HG.out]; exact Nat.le_refl _), _, HR.out, fun i hi => HF.out i (by omega)⟩
      · obtain ⟨wo, rfl⟩ : ∃ wo : World, wo = wr := ⟨_, rfl⟩
        have hmk : m = k + 1 := by omega
        subst hmk
        go_wp2_with fail
        go_loop [5, 7, 8] (fun i d s => ∃ t : Nat, 8 * k + t ≤ n ∧ i = .int .i64 ((n : Int) - 8 * k - t) ∧ d = .int .u64 (pd V k t) ∧ s = .int .u64 (8 * t)) (fun i _ _ => (intOf i).toNat)
        case atStart => exact ⟨0, by omega, by simp, by simp [pd_zero], by simp⟩
        case round =>
          obtain ⟨t, ht, rfl, rfl, rfl⟩ := hrel
          by_cases h9 : 8 * k + t = n
          · have hr := HR.out
            have ck := hr.cell (i := k) (by omega)
            have fk := hr.frozen k
            have ht8 := pd_full (k := k) hV h9.symm (by omega)
            rw [ht8]
            have hkk : k + 1 - 1 = k := by omega
            have HN := fun (W : World) (f' : Nat → Value) (h1 : Row W g 228 c f') (h2 : ∀ i, i < k + 1 → f' i = .int .u64 (wd V i)) => norm_row h1 h2 (show V < 2 ^ (64 * (k + 1)) from Nat.lt_of_lt_of_le hV (Nat.pow_le_pow_right (by omega) (by omega))) (by omega) (by omega)
            have HNN := Lib.hid HN; clear HN
            clear hr hkk
            go_wp2_with fail
            refine (HNN.out _ _ (HR.out.set k _) (fun i hi => ?_)).mono ?_
            · show (if _ then _ else _) = _
              by_cases e : i = k
              · rw [if_pos e, e]
              · rw [if_neg e]; exact HF.out i (by omega)
            · rintro e w' ⟨⟨m', hm', hNw, rfl⟩, rfl⟩
              go_wp2
              go_ret
              refine ⟨m', g, c, HG.out, hNw, by omega, by omega, rfl, Chg.below hb1 hb1.size (hch.set k _) (by rw [HG.out]; exact Nat.le_refl _), _, HR.out.set k _, fun i hi => ?_⟩
              show (if _ then _ else _) = _
              by_cases e : i = k
              · rw [if_pos e, e]
              · rw [if_neg e]; exact HF.out i (by omega)
          · have hcl := HCC.out (n - 8 * k - t - 1) (by omega)
            rw [show n - 1 - (n - 8 * k - t - 1) = 8 * k + t by omega] at hcl
            have hdl := dg_lt V (8 * k + t)
            have hpl := pd_lt V k t
            have hor := or_pd V k t (by omega)
            go_wp2
            go_round
            case rel => exact ⟨t + 1, by omega, by go_num, by first | rfl | exact congrArg _ hor, by go_num⟩
            case measure => simp [intOf]; omega
end Go.Proofs.YtgohhebffcldeaaGreatDoor
