/- Walks: division of a number by a word: divWVW, divW, nat.div. -/
import Derived.Test.YtgohhebffcldeaaGreatDoorDivW2
import Derived.Test.YtgohhebffcldeaaGreatDoorMulN
import Derived.Test.YtgohhebffcldeaaGreatDoorRat
set_option linter.unusedVariables false
set_option linter.unusedSimpArgs false
namespace Go.Proofs.YtgohhebffcldeaaGreatDoor
open Go.RowKit
open Num

theorem divWVW_any (g c N gx ox cx n X y : Nat) (f : Nat → Value) (w : World) (hrow : Row w g 228 N f) (hgx : gx ≠ g) (hgw : gx < w.heap.size) (hn2 : 2 ≤ n) (hn : n ≤ 16777216) (hy : 0 < y) (hy2 : y < 18446744073709551616) (hfit : n ≤ N) (hX : X < 2 ^ (64 * n))
    (hc : ∀ i, i < n → w.cell? ⟨gx, ox + i, none⟩ = some (.int .u64 (wd X i))) :
    Calls Tryz.prog 244 #[.slice (some ⟨g, 0, none⟩) n c, .int .u64 0, .slice (some ⟨gx, ox, none⟩) n cx, .int .u64 y] w fun e w' => e = .returned (.int .u64 ((X % y : Nat) : Int)) ∧ (Chg g w w' ∧ w'.heap.size = w.heap.size) ∧
      ∃ f', Row w' g 228 N f' ∧ ∀ i, i < n → f' i = .int .u64 (wd (X / y) i) := by
  have HC := Lib.hid hc; clear hc
  have HX := Lib.hid hX; clear hX
  have hn1 : ((n : Int) == 1) = false := by simp; omega
  go_enter Tryz.func244, Tryz.ntmps244
  go_wp2_with fail
  refine (recip_any y hy hy2 _).mono ?_
  rintro e w1 ⟨⟨s, m, hs, h1, h2, h3, rfl⟩, kk, rfl⟩
  have H1 := Lib.hid h1; have H2 := Lib.hid h2; have H3 := Lib.hid h3
  clear h1 h2 h3
  have hrow1 := hrow.drewN kk
  have hch1 : Chg g w (w.drewN kk) := (Chg.refl g w).drewN kk
  have hz1 : (w.drewN kk).heap.size = w.heap.size := rfl
  have HC1 := Lib.hid hch1; have HZ1 := Lib.hid hz1
  generalize w.drewN kk = w1 at *
  clear hch1 hz1
  go_wp2_with fail
  go_loopw [8, 12] (fun r i wr => ∃ k : Nat, ∃ f', k ≤ n ∧ r = .int .u64 ((X / 2 ^ (64 * k) % y : Nat) : Int) ∧ i = .int .i64 ((k : Int) - 1) ∧ Row wr g 228 N f' ∧ Hid (∀ i, k ≤ i → i < n → f' i = .int .u64 (wd (X / y) i)) ∧ Hid (Chg g w wr ∧ wr.heap.size = w.heap.size)) (fun _ i _ => (intOf i + 1).toNat)
  case atStart => exact ⟨n, f, by omega, by rw [Nat.div_eq_of_lt HX.out]; simp, by go_num, hrow1, fun i h1 h2 => absurd h1 (by omega), ⟨HC1.out, HZ1.out⟩⟩
  case round =>
    obtain ⟨k, f', hk, rfl, rfl, hR, HF, HG⟩ := hrel
    by_cases hk0 : 0 < k
    · have ck := hR.cell (i := k - 1) (by omega)
      have fk := hR.frozen (k - 1)
      have hxk : wr.cell? ⟨gx, ox + (k - 1), none⟩ = some (.int .u64 (wd X (k - 1))) := by
        rw [HG.out.1.cell (p := ⟨gx, ox + (k - 1), none⟩) hgw hgx]; exact HC.out (k - 1) (by omega)
      have hw := wd_lt X (k - 1)
      have hdig := divw_digit (X := X) (y := y) (i := k - 1) hy
      rw [show k - 1 + 1 = k by omega] at hdig
      have hT : X / 2 ^ (64 * k) % y < y := Nat.mod_lt _ hy
      obtain ⟨T, hTe⟩ : ∃ T, T = X / 2 ^ (64 * k) % y := ⟨_, rfl⟩
      rw [← hTe] at hdig hT ⊢
      have HD := Lib.hid (divWW_any T (wd X (k - 1)) y m s hy hy2 hT hw H1.out H2.out H3.out wr)
      rw [hdig.1, hdig.2] at HD
      have HR := Lib.hid hR; clear hR hdig hTe
      go_wp2_with fail
      refine HD.out.mono ?_
      rintro e w' ⟨rfl, rfl⟩
      go_wp2
      go_roundw
      case rel =>
        refine ⟨k - 1, _, by omega, rfl, by go_num, HR.out.set (k - 1) _, fun i h1 h2 => ?_, ⟨HG.out.1.set _ _, by have := HG.out.2; simpa [World.setCell] using this⟩⟩
        show (if _ then _ else _) = _
        by_cases e : i = k - 1
        · subst e; rw [if_pos rfl]
        · rw [if_neg e]; exact HF.out i (by omega) h2
      case measure => simp [intOf]; omega
    · obtain rfl : k = 0 := by omega
      have HR := Lib.hid hR; clear hR
      go_wp2
      go_ret
      exact ⟨by simp, HG.out, f', HR.out, fun i hi => HF.out i (by omega) hi⟩
theorem divW_any (gx ox cx n X y : Nat) (w : World) (hgw : gx < w.heap.size) (hn2 : 2 ≤ n) (hn : n ≤ 16777216) (hy : 2 ≤ y) (hy2 : y < 18446744073709551616) (hX : X < 2 ^ (64 * n))
    (hc : ∀ i, i < n → w.cell? ⟨gx, ox + i, none⟩ = some (.int .u64 (wd X i))) :
    Calls Tryz.prog 228 #[.slice none 0 0, .slice (some ⟨gx, ox, none⟩) n cx, .int .u64 y] w fun e w' => ∃ l c, e = .returned (.tuple #[.slice (some ⟨w.heap.size, 0, none⟩) l c, .int .u64 ((X % y : Nat) : Int)]) ∧ Nw l (X / y) ∧ l ≤ n ∧ l ≤ c ∧ c ≤ n + 4 ∧ Below w.heap.size w w' ∧ ∃ f, Row w' w.heap.size 228 c f ∧ ∀ i, i < l → f i = .int .u64 (wd (X / y) i) := by
  have HC := Lib.hid hc; clear hc
  have HX := Lib.hid hX; clear hX
  have hn0 : ((n : Int) == 0) = false := by simp; omega
  have hy0 : ((y : Int) == 0) = false := by simp; omega
  have hy1 : ((y : Int) == 1) = false := by simp; omega
  have HMK := Lib.hid (make_gt none 0 0 n w (by omega) (by omega))
  go_enter Tryz.func228, Tryz.ntmps228
  go_wp2_with fail
  refine HMK.out.mono ?_
  rintro e w' ⟨c, hc1, ⟨hc2, _⟩, rfl, rfl⟩
  have hrow := Row.made w 228 c (.int .u64 0)
  have hb1 : Below w.heap.size w (w.alloc (.cells (madeCells #[.int .u64 0] c) 228)) := (Below.refl _ _).alloc (Nat.le_refl _) _
  have hsz1 : (w.alloc (.cells (madeCells #[.int .u64 0] c) 228)).heap.size = w.heap.size + 1 := by simp
  obtain ⟨w1, hw1⟩ : ∃ w1, w1 = w.alloc (.cells (madeCells #[.int .u64 0] c) 228) := ⟨_, rfl⟩
  rw [← hw1] at hrow hb1 hsz1 ⊢
  have HD := Lib.hid (divWVW_any w.heap.size c c gx ox cx n X y _ w1 hrow (by omega) (by omega) hn2 hn (by omega) hy2 hc1 HX.out (fun i hi => (hb1.cell (p := ⟨gx, ox + i, none⟩) hgw).trans (HC.out i hi)))
  have HB1 := Lib.hid hb1
  clear hw1 hrow hb1 hsz1
  go_wp2_with fail
  refine HD.out.mono ?_
  rintro e w2 ⟨rfl, hch2, f2, hr2, hf2⟩
  have hlt : X / y < 2 ^ (64 * n) := Nat.lt_of_le_of_lt (Nat.div_le_self _ _) HX.out
  have HN := Lib.hid (norm_row hr2 hf2 hlt (by omega) (by omega))
  have HROW := Lib.hid hr2; have HF2 := Lib.hid hf2; have HCH := Lib.hid hch2
  obtain ⟨R, hR⟩ : ∃ R, R = X % y := ⟨_, rfl⟩
  have HRR := Lib.hid hR
  rw [← hR]
  clear hr2 hf2 hch2 hlt hR
  go_wp2_with fail
  refine HN.out.mono ?_
  rintro e w3 ⟨⟨m', hm', hN, rfl⟩, rfl⟩
  have HN3 := Lib.hid hN; clear hN
  go_wp2
  go_ret2
  exact ⟨m', c, by rw [← HRR.out]; rfl, HN3.out, by omega, by omega, by omega, Chg.below HB1.out HB1.out.size HCH.out.1 (Nat.le_refl _), _, HROW.out, fun i hi => HF2.out i (by omega)⟩

/-- what a division by a word leaves -/
def DivIs (w w' : World) (e : Ending) (Q R : Nat) : Prop :=
  ∃ s l t k, e = .returned (.tuple #[s, t]) ∧ Nw l Q ∧ l ≤ 16777216 ∧ NatNew w w' s l Q ∧ Nw k R ∧ k ≤ 1 ∧ NatNew w w' t k R ∧ Below w.heap.size w w'

theorem nw_pos {n V : Nat} (h : Nw n V) (h0 : 0 < V) : 0 < n := by
  rcases Nat.eq_zero_or_pos n with h1 | h1
  · have := h.zero_iff.1 h1; omega
  · exact h1
theorem nw_val {n V : Nat} (h : Nw n V) (h0 : 0 < n) : 0 < V := by
  rcases Nat.eq_zero_or_pos V with h1 | h1
  · have := h.zero_iff.2 h1; omega
  · exact h1
theorem NatNew.ext {w w1 w2 : World} {s : Value} {n V : Nat} (h : NatNew w w1 s n V) (hb : Below w1.heap.size w1 w2) : NatNew w w2 s n V :=
  h.heap fun k hk _ => hb.block k hk

/-- n ≥ 2 words by one word that is not 0 -/
theorem natDiv_word (st : Option Addr) (gx px cx gy py cy n X y : Nat) (w : World) (hn2 : 2 ≤ n) (hn : n ≤ 1048576) (hX : X < 2 ^ (64 * n)) (hXy : y ≤ X) (hy : 0 < y) (hy2 : y < 18446744073709551616) (hg : gx < w.heap.size)
    (hNX : Nw n X) (hc : ∀ i, i < n → w.cell? ⟨gx, px + i, none⟩ = some (.int .u64 (wd X i))) (hcy : w.cell? ⟨gy, py, none⟩ = some (.int .u64 y)) :
    Calls Tryz.prog 203 #[.slice none 0 0, .pointer st, .slice none 0 0, .slice (some ⟨gx, px, none⟩) n cx, .slice (some ⟨gy, py, none⟩) 1 cy] w fun e w' => DivIs w w' e (X / y) (X % y) := by
  have hq0 : 0 < X / y := Nat.div_pos hXy hy
  by_cases h1 : y = 1
  · subst h1
    have HS := Lib.hid (divW_one gx px cx n X w (by omega) (by omega) hg hc)
    have HNX := Lib.hid hNX
    clear hc hNX hX
    go_enter_defers Tryz.func203, Tryz.ntmps203
    go_wp2_with fail
    refine HS.out.mono ?_
    rintro e w2 ⟨c, hc1, hc2, rfl, hb, f, hr, hf⟩
    have HB := Lib.hid hb; have HR := Lib.hid hr; have HF := Lib.hid hf
    clear hb hr hf
    go_wp2_with fail
    refine (setWord_zero _ _ _ _).mono ?_
    rintro e w3 ⟨rfl, rfl⟩
    go_wp2
    refine ⟨.tuple #[.slice (some ⟨w.heap.size, 0, none⟩) n c, .slice none 0 0], by simp [results, Tryz.results203, go_sem], _, n, _, 0, rfl, ?_⟩
    rw [Nat.div_one, Nat.mod_one]
    exact ⟨HNX.out, by omega, .inr ⟨by omega, HNX.out.1, _, c, f, rfl, Nat.le_refl _, hc1, by omega, HR.out, HF.out⟩, ⟨by simp, fun h => absurd h (by omega)⟩, by omega, .inl ⟨rfl, rfl, rfl⟩, HB.out⟩
  · have HS := Lib.hid (divW_any gx px cx n X y w hg hn2 (by omega) (by omega) hy2 hX hc)
    obtain ⟨R, hR⟩ : ∃ R, R = X % y := ⟨_, rfl⟩
    have hRy : R < y := by rw [hR]; exact Nat.mod_lt _ hy
    rw [← hR] at HS ⊢
    clear hc hNX hX hR
    go_enter_defers Tryz.func203, Tryz.ntmps203
    go_wp2_with fail
    refine HS.out.mono ?_
    rintro e w2 ⟨l, c, rfl, hN, hl, hlc, hc4, hb, f, hr, hf⟩
    have HB := Lib.hid hb; have HR := Lib.hid hr; have HF := Lib.hid hf; have HN := Lib.hid hN
    have HSZ := Lib.hid hb.size
    clear hb hr hf hN
    by_cases hR0 : R = 0
    · subst hR0
      go_wp2_with fail
      refine (setWord_zero _ _ _ _).mono ?_
      rintro e w3 ⟨rfl, rfl⟩
      go_wp2
      refine ⟨.tuple #[.slice (some ⟨w.heap.size, 0, none⟩) l c, .slice none 0 0], by simp [results, Tryz.results203, go_sem], _, l, _, 0, rfl, ?_⟩
      exact ⟨HN.out, by omega, .inr ⟨nw_pos HN.out hq0, HN.out.1, _, c, f, rfl, Nat.le_refl _, hlc, by omega, HR.out, HF.out⟩, ⟨by simp, fun h => absurd h (by omega)⟩, by omega, .inl ⟨rfl, rfl, rfl⟩, HB.out⟩
    · go_wp2_with fail
      refine (setWord_new R _ (by omega)).mono ?_
      rintro e w3 ⟨g3, c3, hg3, rfl, rfl, hb3, hs3, f3, hr3, hf3⟩
      have H3 := Lib.hid (And.intro hg3 (And.intro hb3 (And.intro hr3 hf3)))
      clear hg3 hb3 hs3 hr3 hf3
      go_wp2
      obtain ⟨hg3, hb3, hr3, hf3⟩ := H3.out
      have hsz := HSZ.out
      refine ⟨.tuple #[.slice (some ⟨w.heap.size, 0, none⟩) l c, .slice (some ⟨g3, 0, none⟩) 1 1], by simp [results, Tryz.results203, go_sem], _, l, _, 1, rfl, ?_⟩
      refine ⟨HN.out, by omega, .inr ⟨nw_pos HN.out hq0, HN.out.1, _, c, f, rfl, Nat.le_refl _, hlc, by omega, HR.out.below hb3 HR.out.lt, HF.out⟩, ?_, by omega, .inr ⟨by omega, ?_, g3, 1, f3, rfl, by omega, by omega, by omega, hr3, fun i hi => ?_⟩, HB.out.trans (hb3.mono hsz)⟩
      · refine ⟨?_, fun _ => by simp; omega⟩
        rw [show (2 : Nat) ^ (64 * 1) = 18446744073709551616 by decide]; omega
      · rw [show (2 : Nat) ^ (64 * 1) = 18446744073709551616 by decide]; omega
      · obtain rfl : i = 0 := by omega
        rw [hf3]
        have : wd R 0 = R := by unfold wd; simp; omega
        rw [this]
end Go.Proofs.YtgohhebffcldeaaGreatDoor
