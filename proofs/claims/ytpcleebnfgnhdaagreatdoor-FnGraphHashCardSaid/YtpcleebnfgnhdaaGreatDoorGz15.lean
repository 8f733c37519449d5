import Derived.Test.YtpcleebnfgnhdaaGreatDoorGz13
import Derived.Test.YtpcleebnfgnhdaaGreatDoorGz4
import Derived.Deep.RegionLaw
import Derived.Defers
import Derived.Test.YtpcleebnfgnhdaaGreatDoorGz14
import Derived.Test.YtpcleebnfgnhdaaGreatDoorGz9
/- Walks: products of numbers: basicMul, mulAddWW, nat.mul. -/
set_option linter.unusedVariables false
set_option linter.unusedSimpArgs false
namespace Go.Proofs.YtpcleebnfgnhdaaGreatDoor
open Go.RowKit
open Num

set_option maxHeartbeats 2000000 in
theorem basicMul_any (g c N gx ox cx n X gy oy cy m Y : Nat) (f : Nat → Value) (w : World) (hrow : Row w g 246 N f) (hgx : gx ≠ g) (hgxw : gx < w.heap.size) (hgy : gy ≠ g) (hgyw : gy < w.heap.size)
    (hn0 : 0 < n) (hm0 : 0 < m) (hn : n ≤ 16777216) (hm : m ≤ 16777216) (hfit : n + m ≤ N) (hcap : n + m ≤ c) (hX : X < 2 ^ (64 * n)) (hY : Y < 2 ^ (64 * m)) (hc4 : c ≤ 2147483651)
    (hx : ∀ i, i < n → w.cell? ⟨gx, ox + i, none⟩ = some (.int .u64 (wd X i))) (hy : ∀ i, i < m → w.cell? ⟨gy, oy + i, none⟩ = some (.int .u64 (wd Y i))) :
    Calls Tryz.prog 187 #[.slice (some ⟨g, 0, none⟩) (n + m) c, .slice (some ⟨gx, ox, none⟩) n cx, .slice (some ⟨gy, oy, none⟩) m cy] w fun e w' => e = .returned (.tuple #[]) ∧ (Chg g w w' ∧ w'.heap.size = w.heap.size) ∧
      ∃ f', Row w' g 246 N f' ∧ ∀ i, i < n + m → f' i = .int .u64 (wd (X * Y) i) := by
  have HX := Lib.hid hx; clear hx
  have HY := Lib.hid hy; clear hy
  have HX2 := Lib.hid hX; clear hX
  have HY2 := Lib.hid hY; clear hY
  go_enter Tryz.func187, Tryz.ntmps187
  go_wp2_with ((with_reducible show wpList _ _ _ (⟨_, .call { callee := .builtin .clear, args := #[.tmp 14], argTypes := #[210] }, _, _, _, _⟩ :: _) _ _); refine wpList_clear_fn rfl (.tmp 14) 210 rfl 246 natUnder (.int .u64 0) natZero rfl rfl g 0 _ _ rfl 246 N _ hrow (by omega) ?_; intro w3 hr3 hch3)
  have hgxw3 : gx < w3.heap.size := by rw [hch3.out.2]; exact hgxw
  have HCH3 := Lib.hid hch3.out
  have hr3o := hr3.out
  clear hch3 hr3 hrow
  go_loopw [17] (fun i wr => ∃ k : Nat, ∃ f', k ≤ m ∧ i = .int .i64 k ∧ Row wr g 246 N f' ∧ Hid (∀ i, i < n + m → f' i = .int .u64 (wd (X * (Y % 2 ^ (64 * k))) i)) ∧ Hid (Chg g w wr ∧ wr.heap.size = w.heap.size)) (fun i _ => m - (intOf i).toNat)
  case atStart => exact ⟨0, _, by omega, by go_num, hr3o, fun i hi => by
      show (if _ then _ else _) = _
      rw [if_pos ⟨by omega, by omega⟩]; simp [Nat.mod_one, wd], HCH3.out⟩
  case round =>
    obtain ⟨k, f', hk, rfl, hR, HF, HG⟩ := hrel
    by_cases hkm : k < m
    · have hyk : wr.cell? ⟨gy, oy + k, none⟩ = some (.int .u64 (wd Y k)) := by
        rw [HG.out.1.cell (p := ⟨gy, oy + k, none⟩) hgyw hgy]; exact HY.out k hkm
      have HR := Lib.hid hR; clear hR
      by_cases hd : wd Y k = 0
      · have hP : X * (Y % 2 ^ (64 * (k + 1))) = X * (Y % 2 ^ (64 * k)) := by rw [mod_succ, hd, Nat.mul_zero, Nat.add_zero]
        have HP := Lib.hid hP
        have hd0 : ((wd Y k : Int) != 0) = false := by simp [hd]
        clear hd hP
        go_wp2
        go_roundw
        case rel => exact ⟨k + 1, f', by omega, by go_num, HR.out, by rw [HP.out]; exact HF.out, HG.out⟩
        case measure => simp [intOf]; omega
      · have hd0 : ((wd Y k : Int) != 0) = true := by simp; omega
        have hw := wd_lt Y k
        have hmr := mul_round (X := X) (Y := Y) (m := n) (k := k) HX2.out
        have HM := Lib.hid hmr
        have HADD := Lib.hid (addMulVVWW_any g k N (c - k) (c - k) gx ox cx n (X * (Y % 2 ^ (64 * k)) / 2 ^ (64 * k)) X (wd Y k) f' wr.drew HR.out.drew hgx (by rw [show wr.drew.heap.size = wr.heap.size from rfl, HG.out.2]; exact hgxw) (by omega) hw (by omega)
          (fun i hi => by rw [wd_shift]; exact HF.out (k + i) (by omega)) (fun i hi => (HG.out.1.cell (p := ⟨gx, ox + i, none⟩) hgxw hgx).trans (HX.out i hi)))
        have hb2 : (n : Int) + (k : Int) < (n : Int) + (m : Int) := by omega
        have hb4 : n + k < n + m := by omega
        have hb5 : ¬ c = k := by omega
        have hb1 : (k : Int) + (n : Int) ≤ (c : Int) := by omega
        have hb7 : (0 : Int) ≤ (k : Int) + (n : Int) := by omega
        have hb8 : (0 : Int) ≤ (n : Int) + (k : Int) := by omega
        have hb9 : k + n - k = n := by omega
        have hw1 : IntKind.i64.wrap ((k : Int) + (n : Int)) = (k : Int) + (n : Int) := by simp only [IntKind.wrap_i64]; omega
        have hw2 : IntKind.i64.wrap ((n : Int) + (k : Int)) = (n : Int) + (k : Int) := by simp only [IntKind.wrap_i64]; omega
        have hw3 : ((k : Int) + (n : Int)).toNat = k + n := by omega
        have hw4 : ((n : Int) + (k : Int)).toNat = n + k := by omega
        clear hd hmr
        go_wp2_with fail
        go_region_law (first | (go_simp; go_at_call 198; refine HADD.out.mono ?_; rintro e w2 ⟨rfl, hch2, f2, hr2, hf2, ho2⟩; have ck2 := hr2.cell (i := n + k) (by omega); have fk2 := hr2.frozen (n + k); have HR2 := Lib.hid hr2; have HF2 := Lib.hid hf2; have HO2 := Lib.hid ho2; have HCH2 := Lib.hid hch2; clear hr2 hf2 ho2 hch2))
        all_goals (
          go_wp2
          go_roundw
          case rel =>
            have hM := HM.out
            have hac : acc (X * (Y % 2 ^ (64 * k)) / 2 ^ (64 * k)) X (wd Y k) 0 n = X * (Y % 2 ^ (64 * (k + 1))) / 2 ^ (64 * k) := by
              rw [acc_full hM.2.1 HX2.out]; exact hM.2.2.1.symm
            have hP' : X * (Y % 2 ^ (64 * (k + 1))) < 2 ^ (64 * (n + (k + 1))) := (mul_round (X := X) (Y := Y) (m := n) (k := k + 1) HX2.out).1
            have hch : Chg g w w2 := ⟨HCH2.out.1.os.trans HG.out.1.os, HCH2.out.1.tape.trans HG.out.1.tape, HCH2.out.1.output.trans HG.out.1.output, Nat.le_trans HG.out.1.size HCH2.out.1.size, fun i hi hg => (HCH2.out.1.block i (by have := HG.out.2; show i < wr.heap.size; omega) hg).trans (HG.out.1.block i hi hg)⟩
            have hh : X * (Y % 2 ^ (64 * (k + 1))) / 2 ^ (64 * k) / 2 ^ (64 * n) = wd (X * (Y % 2 ^ (64 * (k + 1)))) (n + k) := by
              rw [Nat.div_div_eq_div_mul, ← Nat.pow_add, show 64 * k + 64 * n = 64 * (n + k) by omega]
              unfold wd
              refine (Nat.mod_eq_of_lt ?_).symm
              rw [Nat.div_lt_iff_lt_mul (Nat.two_pow_pos _), ← Nat.pow_add, show 64 + 64 * (n + k) = 64 * (n + (k + 1)) by omega]
              exact hP'
            refine ⟨k + 1, _, by omega, by go_num, HR2.out.set (n + k) _, fun i hi => ?_, ⟨hch.set _ _, by have h1 := HG.out.2; have h2 := HCH2.out.2; have h3 : wr.drew.heap.size = wr.heap.size := rfl; simp [World.setCell]; omega⟩⟩
            show (if _ then _ else _) = _
            by_cases e : i = n + k
            · subst e
              rw [if_pos rfl, hac, ← hh]
              simp
            · rw [if_neg e]
              by_cases h1 : i < k
              · rw [HO2.out i (by omega), HF.out i hi, hM.2.2.2 i h1]
              · by_cases h2 : i < n + k
                · have := HF2.out (i - k) (by omega)
                  rw [show k + (i - k) = i by omega, hac, wd_shift, show k + (i - k) = i by omega] at this
                  exact this
                · rw [HO2.out i (by omega), HF.out i hi, wd_high hM.1 (by omega), wd_high hP' (by omega)]
          case measure => simp [intOf]; omega)
    · obtain rfl : k = m := by omega
      have HR := Lib.hid hR; clear hR
      go_wp2
      go_end0
      rw [Nat.mod_eq_of_lt HY2.out] at HF
      exact ⟨rfl, HG.out, f', HR.out, HF.out⟩

/-- the slice s holds V in n words (in whatever block), no leading 0 -/
def Words (w : World) (s : Value) (n V : Nat) : Prop :=
  Nw n V ∧ n ≤ 16777216 ∧ ((n = 0 ∧ ∃ a c, s = .slice a 0 c) ∨ (0 < n ∧ ∃ g p c, s = .slice (some ⟨g, p, none⟩) n c ∧ g < w.heap.size ∧ ∀ i, i < n → w.cell? ⟨g, p + i, none⟩ = some (.int .u64 (wd V i))))
theorem Words.shape {w : World} {s : Value} {n V : Nat} (h : Words w s n V) : ∃ a c, s = .slice a n c := by
  rcases h.2.2 with ⟨rfl, a, c, rfl⟩ | ⟨_, g, p, c, rfl, _⟩
  · exact ⟨a, c, rfl⟩
  · exact ⟨_, c, rfl⟩
theorem Words.below {w w' : World} {s : Value} {n V : Nat} (h : Words w s n V) (hb : Below w.heap.size w w') : Words w' s n V := by
  refine ⟨h.1, h.2.1, ?_⟩
  rcases h.2.2 with h2 | ⟨h0, g, p, c, rfl, hg, hc⟩
  · exact .inl h2
  · exact .inr ⟨h0, g, p, c, rfl, Nat.lt_of_lt_of_le hg hb.size, fun i hi => (hb.cell (p := ⟨g, p + i, none⟩) hg).trans (hc i hi)⟩

theorem mulAddWW_any (gx ox cx n X y : Nat) (w : World) (h0 : 0 < n) (hn : n ≤ 16777216) (hX : X < 2 ^ (64 * n)) (hgx : gx < w.heap.size) (hy0 : 0 < y) (hy : y < 18446744073709551616)
    (hc : ∀ i, i < n → w.cell? ⟨gx, ox + i, none⟩ = some (.int .u64 (wd X i))) :
    Calls Tryz.prog 185 #[.slice none 0 0, .slice (some ⟨gx, ox, none⟩) n cx, .int .u64 y, .int .u64 0] w fun e w' => ∃ l c, e = .returned (.slice (some ⟨w.heap.size, 0, none⟩) l c) ∧ Nw l (X * y) ∧ l ≤ n + 1 ∧ l ≤ c ∧ c ≤ n + 5 ∧ Below w.heap.size w w' ∧ ∃ f, Row w' w.heap.size 246 c f ∧ ∀ i, i < l → f i = .int .u64 (wd (X * y) i) := by
  have HC := Lib.hid hc; clear hc
  have HX := Lib.hid hX; clear hX
  have hn0 : ((n : Int) == 0) = false := by simp; omega
  have hy00 : ((y : Int) == 0) = false := by simp; omega
  have hmk := make_gt none 0 0 (n + 1) w (by omega) (by omega)
  have e1 : ((n + 1 : Nat) : Int) = (n : Int) + 1 := by omega
  rw [e1] at hmk
  have HMK := Lib.hid hmk
  clear hmk e1
  go_enter Tryz.func185, Tryz.ntmps185
  go_wp2_with fail
  refine HMK.out.mono ?_
  rintro e w' ⟨c, hc1, ⟨hc2, _⟩, rfl, rfl⟩
  have hrow := Row.made w 246 c (.int .u64 0)
  have hb1 : Below w.heap.size w (w.alloc (.cells (madeCells #[.int .u64 0] c) 246)) := (Below.refl _ _).alloc (Nat.le_refl _) _
  have hsz1 : (w.alloc (.cells (madeCells #[.int .u64 0] c) 246)).heap.size = w.heap.size + 1 := by simp
  obtain ⟨w1, hw1⟩ : ∃ w1, w1 = w.alloc (.cells (madeCells #[.int .u64 0] c) 246) := ⟨_, rfl⟩
  rw [← hw1] at hrow hb1 hsz1 ⊢
  have HADD := Lib.hid (mulAddVWW_any w.heap.size 0 c c gx ox cx n X y 0 _ w1 hrow (by omega) (by omega) (by omega) hy (by omega) (by omega) (fun i hi => (hb1.cell (p := ⟨gx, ox + i, none⟩) hgx).trans (HC.out i hi)))
  have HB1 := Lib.hid hb1
  clear hw1 hrow hb1 hsz1
  go_wp2_with fail
  refine HADD.out.mono ?_
  rintro e w2 ⟨rfl, hch2, f2, hr2, hf2, ho2⟩
  have ck2 := hr2.cell (i := n) (by omega)
  have fk2 := hr2.frozen n
  have hfull : acc 0 X y 0 n = X * y := by rw [acc_full (Nat.two_pow_pos _) HX.out]; simp
  rw [hfull] at hf2 ⊢
  have hlt : X * y < 2 ^ (64 * (n + 1)) := by
    rw [show 64 * (n + 1) = 64 * n + 64 by omega, Nat.pow_add]
    exact Nat.mul_lt_mul_of_lt_of_le HX.out (Nat.le_of_lt hy) (by decide)
  have hcar : X * y / 2 ^ (64 * n) = wd (X * y) n := by
    unfold wd
    refine (Nat.mod_eq_of_lt ?_).symm
    rw [Nat.div_lt_iff_lt_mul (Nat.two_pow_pos _), ← Nat.pow_add, show 64 + 64 * n = 64 * (n + 1) by omega]
    exact hlt
  rw [hcar]
  have hrow3 := hr2.set n (.int .u64 (wd (X * y) n))
  have hf3 : ∀ i, i < n + 1 → (fun j => if j = n then Value.int .u64 (wd (X * y) n) else f2 j) i = .int .u64 (wd (X * y) i) := fun i hi => by
    show (if _ then _ else _) = _
    by_cases e : i = n
    · rw [if_pos e, e]
    · rw [if_neg e]
      have := hf2 i (by omega)
      rwa [Nat.zero_add] at this
  have HN := Lib.hid (norm_row hrow3 hf3 hlt (by omega) (by omega))
  have HROW := Lib.hid hrow3; have HF3 := Lib.hid hf3
  have HCH := Lib.hid (hch2.1.set n (.int .u64 (wd (X * y) n)))
  clear hr2 hf2 ho2 hch2 hfull hlt hcar hrow3 hf3
  go_wp2_with fail
  refine HN.out.mono ?_
  rintro e w3 ⟨⟨m', hm', hN, rfl⟩, rfl⟩
  have HN3 := Lib.hid hN; clear hN
  go_wp2
  go_ret
  exact ⟨m', c, rfl, HN3.out, by omega, by omega, by omega, Chg.below HB1.out HB1.out.size HCH.out (Nat.le_refl _), _, HROW.out, fun i hi => HF3.out i (by omega)⟩

/-- the package's variable karatsubaThreshold holds 40 -/
def KT (w : World) : Prop := w.cell? ⟨2, 0, none⟩ = some (.int .i64 40)
theorem KT.below {w w' : World} (h : KT w) (hb : Below w.heap.size w w') : KT w' := by
  have hl := World.block_lt_of_cell? w _ h
  exact (hb.cell (p := ⟨2, 0, none⟩) hl).trans h

/-- what a product leaves -/
def ProdIs (w w' : World) (e : Ending) (V : Nat) : Prop :=
  ∃ s l, e = .returned s ∧ Nw l V ∧ l ≤ 16777216 ∧ NatNew w w' s l V ∧ Below w.heap.size w w'

end Go.Proofs.YtpcleebnfgnhdaaGreatDoor

/- Walks: division of a number by a word: divWVW, divW, nat.div. -/
set_option linter.unusedVariables false
set_option linter.unusedSimpArgs false
namespace Go.Proofs.YtpcleebnfgnhdaaGreatDoor
open Go.RowKit
open Num

theorem divWVW_any (g c N gx ox cx n X y : Nat) (f : Nat → Value) (w : World) (hrow : Row w g 246 N f) (hgx : gx ≠ g) (hgw : gx < w.heap.size) (hn2 : 2 ≤ n) (hn : n ≤ 16777216) (hy : 0 < y) (hy2 : y < 18446744073709551616) (hfit : n ≤ N) (hX : X < 2 ^ (64 * n))
    (hc : ∀ i, i < n → w.cell? ⟨gx, ox + i, none⟩ = some (.int .u64 (wd X i))) :
    Calls Tryz.prog 230 #[.slice (some ⟨g, 0, none⟩) n c, .int .u64 0, .slice (some ⟨gx, ox, none⟩) n cx, .int .u64 y] w fun e w' => e = .returned (.int .u64 ((X % y : Nat) : Int)) ∧ (Chg g w w' ∧ w'.heap.size = w.heap.size) ∧
      ∃ f', Row w' g 246 N f' ∧ ∀ i, i < n → f' i = .int .u64 (wd (X / y) i) := by
  have HC := Lib.hid hc; clear hc
  have HX := Lib.hid hX; clear hX
  have hn1 : ((n : Int) == 1) = false := by simp; omega
  go_enter Tryz.func230, Tryz.ntmps230
  go_wp2_with fail
  refine (recip_any y hy hy2 _).mono ?_
  rintro e w1 ⟨⟨s, m, hs, h1, h2, h3, rfl⟩, kk, rfl⟩
  have H1 := Lib.hid h1; have H2 := Lib.hid h2; have H3 := Lib.hid h3
  clear h1 h2 h3
  have hrow1 := hrow.drewN kk
  have hch1 : Chg g w (w.drewN kk) := (Chg.refl g w).drewN kk
  have hz1 : (w.drewN kk).heap.size = w.heap.size := rfl
  have HC1 := Lib.hid hch1; have HZ1 := Lib.hid hz1
  generalize w.drewN kk = w1 at *
  clear hch1 hz1
  go_wp2_with fail
  go_loopw [8, 12] (fun r i wr => ∃ k : Nat, ∃ f', k ≤ n ∧ r = .int .u64 ((X / 2 ^ (64 * k) % y : Nat) : Int) ∧ i = .int .i64 ((k : Int) - 1) ∧ Row wr g 246 N f' ∧ Hid (∀ i, k ≤ i → i < n → f' i = .int .u64 (wd (X / y) i)) ∧ Hid (Chg g w wr ∧ wr.heap.size = w.heap.size)) (fun _ i _ => (intOf i + 1).toNat)
  case atStart => exact ⟨n, f, by omega, by rw [Nat.div_eq_of_lt HX.out]; simp, by go_num, hrow1, fun i h1 h2 => absurd h1 (by omega), ⟨HC1.out, HZ1.out⟩⟩
  case round =>
    obtain ⟨k, f', hk, rfl, rfl, hR, HF, HG⟩ := hrel
    by_cases hk0 : 0 < k
    · have ck := hR.cell (i := k - 1) (by omega)
      have fk := hR.frozen (k - 1)
      have hxk : wr.cell? ⟨gx, ox + (k - 1), none⟩ = some (.int .u64 (wd X (k - 1))) := by
        rw [HG.out.1.cell (p := ⟨gx, ox + (k - 1), none⟩) hgw hgx]; exact HC.out (k - 1) (by omega)
      have hw := wd_lt X (k - 1)
      have hdig := divw_digit (X := X) (y := y) (i := k - 1) hy
      rw [show k - 1 + 1 = k by omega] at hdig
      have hT : X / 2 ^ (64 * k) % y < y := Nat.mod_lt _ hy
      obtain ⟨T, hTe⟩ : ∃ T, T = X / 2 ^ (64 * k) % y := ⟨_, rfl⟩
      rw [← hTe] at hdig hT ⊢
      have HD := Lib.hid (divWW_any T (wd X (k - 1)) y m s hy hy2 hT hw H1.out H2.out H3.out wr)
      rw [hdig.1, hdig.2] at HD
      have HR := Lib.hid hR; clear hR hdig hTe
      go_wp2_with fail
      refine HD.out.mono ?_
      rintro e w' ⟨rfl, rfl⟩
      go_wp2
      go_roundw
      case rel =>
        refine ⟨k - 1, _, by omega, rfl, by go_num, HR.out.set (k - 1) _, fun i h1 h2 => ?_, ⟨HG.out.1.set _ _, by have := HG.out.2; simpa [World.setCell] using this⟩⟩
        show (if _ then _ else _) = _
        by_cases e : i = k - 1
        · subst e; rw [if_pos rfl]
        · rw [if_neg e]; exact HF.out i (by omega) h2
      case measure => simp [intOf]; omega
    · obtain rfl : k = 0 := by omega
      have HR := Lib.hid hR; clear hR
      go_wp2
      go_ret
      exact ⟨by simp, HG.out, f', HR.out, fun i hi => HF.out i (by omega) hi⟩
theorem divW_any (gx ox cx n X y : Nat) (w : World) (hgw : gx < w.heap.size) (hn2 : 2 ≤ n) (hn : n ≤ 16777216) (hy : 2 ≤ y) (hy2 : y < 18446744073709551616) (hX : X < 2 ^ (64 * n))
    (hc : ∀ i, i < n → w.cell? ⟨gx, ox + i, none⟩ = some (.int .u64 (wd X i))) :
    Calls Tryz.prog 217 #[.slice none 0 0, .slice (some ⟨gx, ox, none⟩) n cx, .int .u64 y] w fun e w' => ∃ l c, e = .returned (.tuple #[.slice (some ⟨w.heap.size, 0, none⟩) l c, .int .u64 ((X % y : Nat) : Int)]) ∧ Nw l (X / y) ∧ l ≤ n ∧ l ≤ c ∧ c ≤ n + 4 ∧ Below w.heap.size w w' ∧ ∃ f, Row w' w.heap.size 246 c f ∧ ∀ i, i < l → f i = .int .u64 (wd (X / y) i) := by
  have HC := Lib.hid hc; clear hc
  have HX := Lib.hid hX; clear hX
  have hn0 : ((n : Int) == 0) = false := by simp; omega
  have hy0 : ((y : Int) == 0) = false := by simp; omega
  have hy1 : ((y : Int) == 1) = false := by simp; omega
  have HMK := Lib.hid (make_gt none 0 0 n w (by omega) (by omega))
  go_enter Tryz.func217, Tryz.ntmps217
  go_wp2_with fail
  refine HMK.out.mono ?_
  rintro e w' ⟨c, hc1, ⟨hc2, _⟩, rfl, rfl⟩
  have hrow := Row.made w 246 c (.int .u64 0)
  have hb1 : Below w.heap.size w (w.alloc (.cells (madeCells #[.int .u64 0] c) 246)) := (Below.refl _ _).alloc (Nat.le_refl _) _
  have hsz1 : (w.alloc (.cells (madeCells #[.int .u64 0] c) 246)).heap.size = w.heap.size + 1 := by simp
  obtain ⟨w1, hw1⟩ : ∃ w1, w1 = w.alloc (.cells (madeCells #[.int .u64 0] c) 246) := ⟨_, rfl⟩
  rw [← hw1] at hrow hb1 hsz1 ⊢
  have HD := Lib.hid (divWVW_any w.heap.size c c gx ox cx n X y _ w1 hrow (by omega) (by omega) hn2 hn (by omega) hy2 hc1 HX.out (fun i hi => (hb1.cell (p := ⟨gx, ox + i, none⟩) hgw).trans (HC.out i hi)))
  have HB1 := Lib.hid hb1
  clear hw1 hrow hb1 hsz1
  go_wp2_with fail
  refine HD.out.mono ?_
  rintro e w2 ⟨rfl, hch2, f2, hr2, hf2⟩
  have hlt : X / y < 2 ^ (64 * n) := Nat.lt_of_le_of_lt (Nat.div_le_self _ _) HX.out
  have HN := Lib.hid (norm_row hr2 hf2 hlt (by omega) (by omega))
  have HROW := Lib.hid hr2; have HF2 := Lib.hid hf2; have HCH := Lib.hid hch2
  obtain ⟨R, hR⟩ : ∃ R, R = X % y := ⟨_, rfl⟩
  have HRR := Lib.hid hR
  rw [← hR]
  clear hr2 hf2 hch2 hlt hR
  go_wp2_with fail
  refine HN.out.mono ?_
  rintro e w3 ⟨⟨m', hm', hN, rfl⟩, rfl⟩
  have HN3 := Lib.hid hN; clear hN
  go_wp2
  go_ret2
  exact ⟨m', c, by rw [← HRR.out]; rfl, HN3.out, by omega, by omega, by omega, Chg.below HB1.out HB1.out.size HCH.out.1 (Nat.le_refl _), _, HROW.out, fun i hi => HF2.out i (by omega)⟩

/-- what a division by a word leaves -/
def DivIs (w w' : World) (e : Ending) (Q R : Nat) : Prop :=
  ∃ s l t k, e = .returned (.tuple #[s, t]) ∧ Nw l Q ∧ l ≤ 16777216 ∧ NatNew w w' s l Q ∧ Nw k R ∧ k ≤ 1 ∧ NatNew w w' t k R ∧ Below w.heap.size w w'

theorem nw_pos {n V : Nat} (h : Nw n V) (h0 : 0 < V) : 0 < n := by
  rcases Nat.eq_zero_or_pos n with h1 | h1
  · have := h.zero_iff.1 h1; omega
  · exact h1
theorem nw_val {n V : Nat} (h : Nw n V) (h0 : 0 < n) : 0 < V := by
  rcases Nat.eq_zero_or_pos V with h1 | h1
  · have := h.zero_iff.2 h1; omega
  · exact h1
theorem NatNew.ext {w w1 w2 : World} {s : Value} {n V : Nat} (h : NatNew w w1 s n V) (hb : Below w1.heap.size w1 w2) : NatNew w w2 s n V :=
  h.heap fun k hk _ => hb.block k hk

/-- n ≥ 2 words by one word that is not 0 -/
theorem natDiv_word (st : Option Addr) (gx px cx gy py cy n X y : Nat) (w : World) (hn2 : 2 ≤ n) (hn : n ≤ 1048576) (hX : X < 2 ^ (64 * n)) (hXy : y ≤ X) (hy : 0 < y) (hy2 : y < 18446744073709551616) (hg : gx < w.heap.size)
    (hNX : Nw n X) (hc : ∀ i, i < n → w.cell? ⟨gx, px + i, none⟩ = some (.int .u64 (wd X i))) (hcy : w.cell? ⟨gy, py, none⟩ = some (.int .u64 y)) :
    Calls Tryz.prog 196 #[.slice none 0 0, .pointer st, .slice none 0 0, .slice (some ⟨gx, px, none⟩) n cx, .slice (some ⟨gy, py, none⟩) 1 cy] w fun e w' => DivIs w w' e (X / y) (X % y) := by
  have hq0 : 0 < X / y := Nat.div_pos hXy hy
  by_cases h1 : y = 1
  · subst h1
    have HS := Lib.hid (divW_one gx px cx n X w (by omega) (by omega) hg hc)
    have HNX := Lib.hid hNX
    clear hc hNX hX
    go_enter_defers Tryz.func196, Tryz.ntmps196
    go_wp2_with fail
    refine HS.out.mono ?_
    rintro e w2 ⟨c, hc1, hc2, rfl, hb, f, hr, hf⟩
    have HB := Lib.hid hb; have HR := Lib.hid hr; have HF := Lib.hid hf
    clear hb hr hf
    go_wp2_with fail
    refine (setWord_zero _ _ _ _).mono ?_
    rintro e w3 ⟨rfl, rfl⟩
    go_wp2
    refine ⟨.tuple #[.slice (some ⟨w.heap.size, 0, none⟩) n c, .slice none 0 0], by simp [results, Tryz.results196, go_sem], _, n, _, 0, rfl, ?_⟩
    rw [Nat.div_one, Nat.mod_one]
    exact ⟨HNX.out, by omega, .inr ⟨by omega, HNX.out.1, _, c, f, rfl, Nat.le_refl _, hc1, by omega, HR.out, HF.out⟩, ⟨by simp, fun h => absurd h (by omega)⟩, by omega, .inl ⟨rfl, rfl, rfl⟩, HB.out⟩
  · have HS := Lib.hid (divW_any gx px cx n X y w hg hn2 (by omega) (by omega) hy2 hX hc)
    obtain ⟨R, hR⟩ : ∃ R, R = X % y := ⟨_, rfl⟩
    have hRy : R < y := by rw [hR]; exact Nat.mod_lt _ hy
    rw [← hR] at HS ⊢
    clear hc hNX hX hR
    go_enter_defers Tryz.func196, Tryz.ntmps196
    go_wp2_with fail
    refine HS.out.mono ?_
    rintro e w2 ⟨l, c, rfl, hN, hl, hlc, hc4, hb, f, hr, hf⟩
    have HB := Lib.hid hb; have HR := Lib.hid hr; have HF := Lib.hid hf; have HN := Lib.hid hN
    have HSZ := Lib.hid hb.size
    clear hb hr hf hN
    by_cases hR0 : R = 0
    · subst hR0
      go_wp2_with fail
      refine (setWord_zero _ _ _ _).mono ?_
      rintro e w3 ⟨rfl, rfl⟩
      go_wp2
      refine ⟨.tuple #[.slice (some ⟨w.heap.size, 0, none⟩) l c, .slice none 0 0], by simp [results, Tryz.results196, go_sem], _, l, _, 0, rfl, ?_⟩
      exact ⟨HN.out, by omega, .inr ⟨nw_pos HN.out hq0, HN.out.1, _, c, f, rfl, Nat.le_refl _, hlc, by omega, HR.out, HF.out⟩, ⟨by simp, fun h => absurd h (by omega)⟩, by omega, .inl ⟨rfl, rfl, rfl⟩, HB.out⟩
    · go_wp2_with fail
      refine (setWord_new R _ (by omega)).mono ?_
      rintro e w3 ⟨g3, c3, hg3, rfl, rfl, hb3, hs3, f3, hr3, hf3⟩
      have H3 := Lib.hid (And.intro hg3 (And.intro hb3 (And.intro hr3 hf3)))
      clear hg3 hb3 hs3 hr3 hf3
      go_wp2
      obtain ⟨hg3, hb3, hr3, hf3⟩ := H3.out
      have hsz := HSZ.out
      refine ⟨.tuple #[.slice (some ⟨w.heap.size, 0, none⟩) l c, .slice (some ⟨g3, 0, none⟩) 1 1], by simp [results, Tryz.results196, go_sem], _, l, _, 1, rfl, ?_⟩
      refine ⟨HN.out, by omega, .inr ⟨nw_pos HN.out hq0, HN.out.1, _, c, f, rfl, Nat.le_refl _, hlc, by omega, HR.out.below hb3 HR.out.lt, HF.out⟩, ?_, by omega, .inr ⟨by omega, ?_, g3, 1, f3, rfl, by omega, by omega, by omega, hr3, fun i hi => ?_⟩, HB.out.trans (hb3.mono hsz)⟩
      · refine ⟨?_, fun _ => by simp; omega⟩
        rw [show (2 : Nat) ^ (64 * 1) = 18446744073709551616 by decide]; omega
      · rw [show (2 : Nat) ^ (64 * 1) = 18446744073709551616 by decide]; omega
      · obtain rfl : i = 0 := by omega
        rw [hf3]
        have : wd R 0 = R := by unfold wd; simp; omega
        rw [this]
end Go.Proofs.YtpcleebnfgnhdaaGreatDoor
