import Derived.Test.YtpcleebnfgnhdaaGreatDoorGz3
import Derived.Test.YtpcleebnfgnhdaaGreatDoorGz12
import Derived.Shelf.Spec.BitsCarry
import Derived.Laws.Externs
/- Walks: products of words: bits.Add, mulAddWWW_g, mulAddVWW, addMulVVWW. -/
set_option linter.unusedVariables false
set_option linter.unusedSimpArgs false
namespace Go.Proofs.YtpcleebnfgnhdaaGreatDoor
open Go.RowKit
open Num

theorem run_bitsAdd64 (x y c : Nat) (hc : c ≤ 1) (w : World) : (callFunc 241 #[.int .u64 x, .int .u64 y, .int .u64 c]).run Tryz.prog w =
      .ok (.value (.tuple #[.int .u64 (((x + y + c) % 18446744073709551616 : Nat) : Int), .int .u64 (((x + y + c) / 18446744073709551616 : Nat) : Int)])) w := by
  rw [run_callFunc_extern Tryz.func241 (by kernel_rfl) (by kernel_rfl) (by kernel_rfl) (e := add64Entry) (by kernel_rfl), run_add64 x y c (by omega) (by omega) (by omega) (by omega)]
  simp only [Result.andThen]
  congr 5 <;> omega
theorem run_bitsSub64 (x y b : Nat) (hb : b ≤ 1) (w : World) : (callFunc 256 #[.int .u64 x, .int .u64 y, .int .u64 b]).run Tryz.prog w =
      .ok (.value (.tuple #[.int .u64 (((x + 18446744073709551616 - y - b) % 18446744073709551616 : Nat) : Int), .int .u64 ((if x < y + b then 1 else 0 : Nat) : Int)])) w := by
  rw [run_callFunc_extern Tryz.func256 (by kernel_rfl) (by kernel_rfl) (by kernel_rfl) (e := sub64Entry) (by kernel_rfl), run_sub64 x y b hb]
  rfl

theorem bitsAdd_any (x y c : Nat) (hx : x < 18446744073709551616) (hy : y < 18446744073709551616) (hc : c ≤ 1) (w : World) :
    Calls Tryz.prog 226 #[.int .u64 x, .int .u64 y, .int .u64 c] w fun e w' => (∃ s d : Nat, s + 18446744073709551616 * d = x + y + c ∧ s < 18446744073709551616 ∧ d ≤ 1 ∧ e = .returned (.tuple #[.int .u64 s, .int .u64 d])) ∧ w' = w := by
  have h64 := fun W : World => run_bitsAdd64 x y c hc W
  obtain ⟨s, hs⟩ : ∃ s, s = (x + y + c) % 18446744073709551616 := ⟨_, rfl⟩
  obtain ⟨d, hd⟩ : ∃ d, d = (x + y + c) / 18446744073709551616 := ⟨_, rfl⟩
  rw [← hs, ← hd] at h64
  have H := Lib.hid (show s + 18446744073709551616 * d = x + y + c ∧ s < 18446744073709551616 ∧ d ≤ 1 by omega)
  have hs1 : s < 18446744073709551616 := H.out.2.1
  have hd1 : d ≤ 1 := H.out.2.2
  clear hs hd
  go_enter Tryz.func226, Tryz.ntmps226
  go_wp2
  go_ret2
  exact ⟨⟨s, d, H.out.1, hs1, hd1, rfl⟩, rfl⟩

theorem carry_add {h l P s d c : Nat} (e1 : 18446744073709551616 * h + l = P) (e4 : s + 18446744073709551616 * d = l + c + 0) : 18446744073709551616 * (h + d) + s = P + c := by
  rw [Nat.mul_add]
  generalize 18446744073709551616 * h = a at *
  generalize 18446744073709551616 * d = b at *
  omega

theorem mulAddWWW_val (x y c : Nat) (hx : x < 18446744073709551616) (hy : y < 18446744073709551616) (hc : c < 18446744073709551616) (w : World) :
    Calls Tryz.prog 234 #[.int .u64 x, .int .u64 y, .int .u64 c] w fun e w' => e = .returned (.tuple #[.int .u64 (((x * y + c) / 18446744073709551616 : Nat) : Int), .int .u64 (((x * y + c) % 18446744073709551616 : Nat) : Int)]) ∧ w' = w := by
  have HM := Lib.hid (fun W : World => Tryz.bits_Mul x y hx hy W)
  have hP : x * y ≤ 18446744073709551615 * 18446744073709551615 := Nat.mul_le_mul (by omega) (by omega)
  obtain ⟨P, hPe⟩ : ∃ P, P = x * y := ⟨_, rfl⟩
  rw [← hPe] at HM hP ⊢
  obtain ⟨h, hh⟩ : ∃ h, h = P / 18446744073709551616 := ⟨_, rfl⟩
  obtain ⟨l, hl⟩ : ∃ l, l = P % 18446744073709551616 := ⟨_, rfl⟩
  rw [← hh, ← hl] at HM
  have h1 : 18446744073709551616 * h + l = P := by omega
  have h2 : h ≤ 18446744073709551614 := by omega
  have h3 : l < 18446744073709551616 := by omega
  have H1 := Lib.hid h1
  clear hh hl hP hPe h1
  go_enter Tryz.func234, Tryz.ntmps234
  go_wp2_with fail
  refine (HM.out _).mono ?_
  rintro e w' ⟨rfl, rfl⟩
  go_wp2_with fail
  refine (bitsAdd_any l c 0 h3 hc (by omega) _).mono ?_
  rintro e w' ⟨⟨s, d, h4, h5, h6, rfl⟩, rfl⟩
  have H4 := Lib.hid h4
  clear h4
  go_wp2
  go_ret2
  have e5 := carry_add H1.out H4.out
  have e6 : (P + c) / 18446744073709551616 = h + d ∧ (P + c) % 18446744073709551616 = s := by
    refine div_mod_of ?_ h5
    rw [← e5]
  rw [e6.1, e6.2]
  exact ⟨by simp, rfl⟩
theorem mulAddWWW_any (x y c : Nat) (hx : x < 18446744073709551616) (hy : y < 18446744073709551616) (hc : c < 18446744073709551616) (w : World) :
    Calls Tryz.prog 234 #[.int .u64 x, .int .u64 y, .int .u64 c] w fun e w' => (∃ h l : Nat, x * y + c = 18446744073709551616 * h + l ∧ l < 18446744073709551616 ∧ h < 18446744073709551616 ∧ e = .returned (.tuple #[.int .u64 h, .int .u64 l])) ∧ w' = w := by
  refine (mulAddWWW_val x y c hx hy hc w).mono ?_
  rintro e w' ⟨rfl, rfl⟩
  refine ⟨⟨_, _, (Nat.div_add_mod _ _).symm, Nat.mod_lt _ (by decide), ?_, rfl⟩, rfl⟩
  rw [Nat.div_lt_iff_lt_mul (by decide)]
  have hP : x * y ≤ 18446744073709551615 * 18446744073709551615 := Nat.mul_le_mul (by omega) (by omega)
  omega

theorem mulAddVWW_g_any (g off N c gx ox cx n X y r : Nat) (f : Nat → Value) (w : World) (hrow : Row w g 246 N f) (hgx : gx ≠ g) (hgw : gx < w.heap.size) (hn : n ≤ 2147483648) (hy : y < 18446744073709551616) (hr : r < 18446744073709551616) (hfit : off + n ≤ N)
    (hc : ∀ i, i < n → w.cell? ⟨gx, ox + i, none⟩ = some (.int .u64 (wd X i))) :
    Calls Tryz.prog 219 #[.slice (some ⟨g, off, none⟩) n c, .slice (some ⟨gx, ox, none⟩) n cx, .int .u64 y, .int .u64 r] w fun e w' => e = .returned (.int .u64 ((acc 0 X y r n / 2 ^ (64 * n) : Nat) : Int)) ∧ (Chg g w w' ∧ w'.heap.size = w.heap.size) ∧
      ∃ f', Row w' g 246 N f' ∧ (∀ i, i < n → f' (off + i) = .int .u64 (wd (acc 0 X y r n) i)) ∧ ∀ j, (j < off ∨ off + n ≤ j) → f' j = f j := by
  have HC := Lib.hid hc; clear hc
  go_enter Tryz.func219, Tryz.ntmps219
  go_wp2_with fail
  go_loopw [8, 19] (fun c i wr => ∃ k : Nat, ∃ f', k ≤ n ∧ c = .int .u64 ((acc 0 X y r k / 2 ^ (64 * k) : Nat) : Int) ∧ i = .int .i64 k ∧ Row wr g 246 N f' ∧ Hid (∀ i, i < k → f' (off + i) = .int .u64 (wd (acc 0 X y r k) i)) ∧ Hid (∀ j, (j < off ∨ off + k ≤ j) → f' j = f j) ∧ Hid (Chg g w wr ∧ wr.heap.size = w.heap.size)) (fun _ i _ => n - (intOf i).toNat)
  case atStart => exact ⟨0, f, by omega, by simp [acc_zero], by go_num, hrow, fun i h => absurd h (by omega), fun j _ => rfl, ⟨Chg.refl _ _, rfl⟩⟩
  case round =>
    obtain ⟨k, f', hk, rfl, rfl, hR, HF, HO, HG⟩ := hrel
    by_cases hkn : k < n
    · have ck := hR.cell (i := off + k) (by omega)
      have fk := hR.frozen (off + k)
      have hxk : wr.cell? ⟨gx, ox + k, none⟩ = some (.int .u64 (wd X k)) := by
        rw [HG.out.1.cell (p := ⟨gx, ox + k, none⟩) hgw hgx]; exact HC.out k hkn
      have hw := wd_lt X k
      have hcl := acc_lt (Z := 0) (Y := X) (k := k) hy hr
      have HA := Lib.hid (acc_wd 0 X y r k)
      have HB := Lib.hid (acc_carry 0 X y r k)
      have hz0 : wd 0 k = 0 := by simp [wd]
      rw [hz0] at HA HB
      have HR := Lib.hid hR; clear hR hz0
      obtain ⟨t, ht⟩ : ∃ t, t = acc 0 X y r k / 2 ^ (64 * k) := ⟨_, rfl⟩
      rw [← ht] at HA HB hcl ⊢
      clear ht
      go_wp2_with fail
      refine (mulAddWWW_any (wd X k) y t hw hy hcl _).mono ?_
      rintro e w' ⟨⟨h, l, h1, h2, h3, rfl⟩, rfl⟩
      have H1 := Lib.hid h1; clear h1
      go_wp2
      go_roundw
      case rel =>
        have e1 := H1.out
        have e2 := HA.out
        have e3 := HB.out
        rw [Nat.zero_add, Nat.add_comm t, e1] at e2 e3
        rw [Nat.mul_add_mod, Nat.mod_eq_of_lt h2] at e2
        rw [Nat.mul_add_div (by decide), Nat.div_eq_of_lt h2, Nat.add_zero] at e3
        refine ⟨k + 1, _, by omega, by rw [e3]; simp, by go_num, HR.out.set (off + k) _, fun i hi => ?_, fun j hj => ?_, ⟨HG.out.1.set _ _, by have := HG.out.2; simpa [World.setCell] using this⟩⟩
        · show (if _ then _ else _) = _
          by_cases e : i = k
          · subst e; rw [if_pos rfl, e2]
          · rw [if_neg (by omega), acc_low (by omega)]; exact HF.out i (by omega)
        · show (if _ then _ else _) = _
          rw [if_neg (by omega)]; exact HO.out j (by omega)
      case measure => simp [intOf]; omega
    · obtain rfl : k = n := by omega
      have HR := Lib.hid hR; clear hR
      go_wp2
      go_ret
      exact ⟨rfl, HG.out, f', HR.out, HF.out, HO.out⟩

theorem mulAddVWW_any (g off N c gx ox cx n X y r : Nat) (f : Nat → Value) (w : World) (hrow : Row w g 246 N f) (hgx : gx ≠ g) (hgw : gx < w.heap.size) (hn : n ≤ 2147483648) (hy : y < 18446744073709551616) (hr : r < 18446744073709551616) (hfit : off + n ≤ N)
    (hc : ∀ i, i < n → w.cell? ⟨gx, ox + i, none⟩ = some (.int .u64 (wd X i))) :
    Calls Tryz.prog 197 #[.slice (some ⟨g, off, none⟩) n c, .slice (some ⟨gx, ox, none⟩) n cx, .int .u64 y, .int .u64 r] w fun e w' => e = .returned (.int .u64 ((acc 0 X y r n / 2 ^ (64 * n) : Nat) : Int)) ∧ (Chg g w w' ∧ w'.heap.size = w.heap.size) ∧
      ∃ f', Row w' g 246 N f' ∧ (∀ i, i < n → f' (off + i) = .int .u64 (wd (acc 0 X y r n) i)) ∧ ∀ j, (j < off ∨ off + n ≤ j) → f' j = f j := by
  have H := Lib.hid (mulAddVWW_g_any g off N c gx ox cx n X y r f w hrow hgx hgw hn hy hr hfit hc)
  clear hc hrow
  go_enter Tryz.func197, Tryz.ntmps197
  go_wp2_with fail
  refine H.out.mono ?_
  rintro e w' ⟨rfl, h1, h2⟩
  have H1 := Lib.hid h1; have H2 := Lib.hid h2
  clear h1 h2
  go_wp2
  go_ret
  exact ⟨rfl, H1.out, H2.out⟩

theorem addMulVVWW_g_any (g off N c c' gy oy cy n Z Y m : Nat) (f : Nat → Value) (w : World) (hrow : Row w g 246 N f) (hgy : gy ≠ g) (hgw : gy < w.heap.size) (hn : n ≤ 2147483648) (hm : m < 18446744073709551616) (hfit : off + n ≤ N)
    (hz : ∀ i, i < n → f (off + i) = .int .u64 (wd Z i)) (hc : ∀ i, i < n → w.cell? ⟨gy, oy + i, none⟩ = some (.int .u64 (wd Y i))) :
    Calls Tryz.prog 220 #[.slice (some ⟨g, off, none⟩) n c, .slice (some ⟨g, off, none⟩) n c', .slice (some ⟨gy, oy, none⟩) n cy, .int .u64 m, .int .u64 0] w fun e w' => e = .returned (.int .u64 ((acc Z Y m 0 n / 2 ^ (64 * n) : Nat) : Int)) ∧ (Chg g w w' ∧ w'.heap.size = w.heap.size) ∧
      ∃ f', Row w' g 246 N f' ∧ (∀ i, i < n → f' (off + i) = .int .u64 (wd (acc Z Y m 0 n) i)) ∧ ∀ j, (j < off ∨ off + n ≤ j) → f' j = f j := by
  have HC := Lib.hid hc; clear hc
  have HZ := Lib.hid hz; clear hz
  go_enter Tryz.func220, Tryz.ntmps220
  go_wp2_with fail
  go_loopw [10, 32] (fun c i wr => ∃ k : Nat, ∃ f', k ≤ n ∧ c = .int .u64 ((acc Z Y m 0 k / 2 ^ (64 * k) : Nat) : Int) ∧ i = .int .i64 k ∧ Row wr g 246 N f' ∧ Hid (∀ i, i < k → f' (off + i) = .int .u64 (wd (acc Z Y m 0 k) i)) ∧ Hid (∀ j, (j < off ∨ off + k ≤ j) → f' j = f j) ∧ Hid (Chg g w wr ∧ wr.heap.size = w.heap.size)) (fun _ i _ => n - (intOf i).toNat)
  case atStart => exact ⟨0, f, by omega, by simp [acc_zero], by go_num, hrow, fun i h => absurd h (by omega), fun j _ => rfl, ⟨Chg.refl _ _, rfl⟩⟩
  case round =>
    obtain ⟨k, f', hk, rfl, rfl, hR, HF, HO, HG⟩ := hrel
    by_cases hkn : k < n
    · have ck : wr.cell? ⟨g, off + k, none⟩ = some (.int .u64 (wd Z k)) := by
        rw [hR.cell (i := off + k) (by omega), HO.out (off + k) (by omega), HZ.out k hkn]
      have fk := hR.frozen (off + k)
      have hyk : wr.cell? ⟨gy, oy + k, none⟩ = some (.int .u64 (wd Y k)) := by
        rw [HG.out.1.cell (p := ⟨gy, oy + k, none⟩) hgw hgy]; exact HC.out k hkn
      have hw := wd_lt Y k
      have hwz := wd_lt Z k
      have hcl := acc_lt (Z := Z) (Y := Y) (m := m) (a := 0) (k := k) hm (by omega)
      have hcl2 := acc_lt (Z := Z) (Y := Y) (m := m) (a := 0) (k := k + 1) hm (by omega)
      have HA := Lib.hid (acc_wd Z Y m 0 k)
      have HB := Lib.hid (acc_carry Z Y m 0 k)
      have HR := Lib.hid hR; clear hR
      obtain ⟨t, ht⟩ : ∃ t, t = acc Z Y m 0 k / 2 ^ (64 * k) := ⟨_, rfl⟩
      obtain ⟨t2, ht2⟩ : ∃ t2, t2 = acc Z Y m 0 (k + 1) / 2 ^ (64 * (k + 1)) := ⟨_, rfl⟩
      rw [← ht] at HA HB hcl ⊢
      rw [← ht2] at HB hcl2
      have HT2 := Lib.hid ht2
      clear ht ht2
      have HM := Lib.hid (fun W : World => mulAddWWW_val (wd Y k) m (wd Z k) hw hm hwz W)
      obtain ⟨h, hh⟩ : ∃ h, h = (wd Y k * m + wd Z k) / 18446744073709551616 := ⟨_, rfl⟩
      obtain ⟨l, hl⟩ : ∃ l, l = (wd Y k * m + wd Z k) % 18446744073709551616 := ⟨_, rfl⟩
      have h1 : wd Z k + wd Y k * m = 18446744073709551616 * h + l := by rw [hh, hl, Nat.div_add_mod, Nat.add_comm]
      have hll : l < 18446744073709551616 := by rw [hl]; exact Nat.mod_lt _ (by decide)
      rw [← hh, ← hl] at HM
      rw [h1] at HA HB
      clear hh hl h1
      have HX := Lib.hid (show ∀ s d : Nat, s + 18446744073709551616 * d = l + t + 0 → s < 18446744073709551616 → (t + (18446744073709551616 * h + l)) % 18446744073709551616 = s ∧ (t + (18446744073709551616 * h + l)) / 18446744073709551616 = d + h from fun s d e1 e2 => by
        have e3 : t + (18446744073709551616 * h + l) = 18446744073709551616 * (d + h) + s := by
          rw [Nat.mul_add]
          generalize 18446744073709551616 * h = a at *
          generalize 18446744073709551616 * d = b at *
          omega
        have e4 := div_mod_of e3 e2
        exact ⟨e4.2, e4.1⟩)
      go_wp2_with fail
      go_quiet ((go_at_call 234; exact Calls.quiet_of_same (HM.out _)))
      go_wp2_with fail
      refine (bitsAdd_any l t 0 hll hcl (by omega) _).mono ?_
      rintro e w' ⟨⟨s, d, h4, h5, h6, rfl⟩, rfl⟩
      have hdh : d + h < 18446744073709551616 := by
        have := (HX.out s d h4 h5).2
        have hb := HB.out
        omega
      have H4 := Lib.hid h4; clear h4
      go_wp2
      go_roundw
      case rel =>
        have e2 := HA.out
        have e3 := HB.out
        have e6 := HX.out s d H4.out h5
        rw [e6.1] at e2
        rw [e6.2] at e3
        refine ⟨k + 1, _, by omega, by rw [← HT2.out, e3]; simp, by go_num, (HR.out.drewN nq).set (off + k) _, fun i hi => ?_, fun j hj => ?_, ⟨(HG.out.1.drewN nq).set _ _, by have := HG.out.2; simpa [World.setCell] using this⟩⟩
        · show (if _ then _ else _) = _
          by_cases e : i = k
          · subst e; rw [if_pos rfl, e2]
          · rw [if_neg (by omega), acc_low (by omega)]; exact HF.out i (by omega)
        · show (if _ then _ else _) = _
          rw [if_neg (by omega)]; exact HO.out j (by omega)
      case measure => simp [intOf]; omega
    · obtain rfl : k = n := by omega
      have HR := Lib.hid hR; clear hR
      go_wp2
      go_ret
      exact ⟨rfl, HG.out, f', HR.out, HF.out, HO.out⟩

theorem addMulVVWW_any (g off N c c' gy oy cy n Z Y m : Nat) (f : Nat → Value) (w : World) (hrow : Row w g 246 N f) (hgy : gy ≠ g) (hgw : gy < w.heap.size) (hn : n ≤ 2147483648) (hm : m < 18446744073709551616) (hfit : off + n ≤ N)
    (hz : ∀ i, i < n → f (off + i) = .int .u64 (wd Z i)) (hc : ∀ i, i < n → w.cell? ⟨gy, oy + i, none⟩ = some (.int .u64 (wd Y i))) :
    Calls Tryz.prog 198 #[.slice (some ⟨g, off, none⟩) n c, .slice (some ⟨g, off, none⟩) n c', .slice (some ⟨gy, oy, none⟩) n cy, .int .u64 m, .int .u64 0] w fun e w' => e = .returned (.int .u64 ((acc Z Y m 0 n / 2 ^ (64 * n) : Nat) : Int)) ∧ (Chg g w w' ∧ w'.heap.size = w.heap.size) ∧
      ∃ f', Row w' g 246 N f' ∧ (∀ i, i < n → f' (off + i) = .int .u64 (wd (acc Z Y m 0 n) i)) ∧ ∀ j, (j < off ∨ off + n ≤ j) → f' j = f j := by
  have H := Lib.hid (addMulVVWW_g_any g off N c c' gy oy cy n Z Y m f w hrow hgy hgw hn hm hfit hz hc)
  clear hc hrow hz
  go_enter Tryz.func198, Tryz.ntmps198
  go_wp2_with fail
  refine H.out.mono ?_
  rintro e w' ⟨rfl, h1, h2⟩
  have H1 := Lib.hid h1; have H2 := Lib.hid h2
  clear h1 h2
  go_wp2
  go_ret
  exact ⟨rfl, H1.out, H2.out⟩

end Go.Proofs.YtpcleebnfgnhdaaGreatDoor
