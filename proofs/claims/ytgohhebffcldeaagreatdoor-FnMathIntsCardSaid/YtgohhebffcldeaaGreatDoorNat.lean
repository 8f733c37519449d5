/- Walks: the natural numbers of the package (nat): what make, norm, set, setWord, setUint64, cmp, bitLen, low64 compute. -/
import Derived.Test.YtgohhebffcldeaaGreatDoorProg
import Derived.Test.YtgohhebffcldeaaGreatDoorMem
import Derived.Deep.QuietTactic
import Derived.BigQuiet
import Derived.KernelRfl
set_option linter.unusedVariables false
set_option linter.unusedSimpArgs false
namespace Go.Proofs.YtgohhebffcldeaaGreatDoor
open Go.RowKit
open Num

theorem natInfo : (Tryz.prog.info? 228).map (fun i => (i.zero, i.size, i.bytes)) = some (some (.int .u64 0), 1, 8) := by kernel_rfl
theorem natSize : (Tryz.prog.info? 228).map (·.size) = some 1 := by kernel_rfl
theorem natUnder : Tryz.prog.underlying 140 = some (.slice 228) := by kernel_rfl

theorem run_make_nat (l c : Nat) (hlc : l ≤ c) (hc : c ≤ 35184372088832) : ∀ W : World, (Instr.makeSlice 140 (.int .i64 (l : Int)) (.int .i64 (c : Int))).run Tryz.prog W =
    .ok (.slice (some ⟨W.heap.size, 0, none⟩) l c) (W.alloc (.cells (madeCells #[.int .u64 0] c) 228)) := by
  intro W
  obtain ⟨i0, hi, hzz⟩ := Option.map_eq_some_iff.1 natInfo
  simp only [Prod.mk.injEq] at hzz
  obtain ⟨hz0, hz1, hz2⟩ := hzz
  have h := run_make (P := Tryz.prog) W 140 228 i0 (.int .u64 0) natUnder hi hz0 .i64 .i64 (l : Int) (c : Int) (by omega) (by omega) (by rw [hz2]; omega) (by omega)
  simp only [Int.toNat_natCast, hz1, Nat.mul_one] at h
  exact h

/-- make where there is room -/
theorem make_le (a : Option Addr) (len cap n : Nat) (w : World) (h : n ≤ cap) :
    Calls Tryz.prog 153 #[.slice a len cap, .int .i64 n] w fun e w' => e = .returned (.slice a n cap) ∧ w = w' := by
  go_enter Tryz.func153, Tryz.ntmps153
  go_wp2
  go_ret
  exact ⟨rfl, rfl⟩
/-- make where there is none: a new block -/
theorem make_gt (a : Option Addr) (len cap n : Nat) (w : World) (h : cap < n) (hn : n ≤ 2147483648) :
    Calls Tryz.prog 153 #[.slice a len cap, .int .i64 n] w fun e w' => ∃ c, n ≤ c ∧ (c ≤ n + 4 ∧ (n = 1 → c = 1)) ∧ e = .returned (.slice (some ⟨w.heap.size, 0, none⟩) n c) ∧ w.alloc (.cells (madeCells #[.int .u64 0] c) 228) = w' := by
  by_cases h1 : n = 1
  · subst h1
    have hm : ∀ W : World, (Instr.makeSlice 140 (.int .i64 1) (.int .i64 1)).run Tryz.prog W = .ok (.slice (some ⟨W.heap.size, 0, none⟩) 1 1) (W.alloc (.cells (madeCells #[.int .u64 0] 1) 228)) := run_make_nat 1 1 (by omega) (by omega)
    go_enter Tryz.func153, Tryz.ntmps153
    go_wp2
    go_ret
    exact ⟨1, by omega, ⟨by omega, fun _ => rfl⟩, rfl, rfl⟩
  · have hm := run_make_nat n (n + 4) (by omega) (by omega)
    have e4 : ((n + 4 : Nat) : Int) = (n : Int) + 4 := by omega
    rw [e4] at hm
    go_enter Tryz.func153, Tryz.ntmps153
    go_wp2
    go_ret
    exact ⟨n + 4, by omega, ⟨by omega, fun h => absurd h h1⟩, rfl, rfl⟩

theorem natZero : ∀ w : World, (zeroValue 228).run Tryz.prog w = .ok (.int .u64 0) w := fun _ => by kernel_rfl

theorem norm_some (g o c n V : Nat) (w : World) (hV : V < 2 ^ (64 * n)) (hn : n ≤ 9223372036854775807) (hnc : n ≤ c)
    (hc : ∀ i, i < n → w.cell? ⟨g, o + i, none⟩ = some (.int .u64 (wd V i))) :
    Calls Tryz.prog 155 #[.slice (some ⟨g, o, none⟩) n c] w fun e w' => (∃ m, m ≤ n ∧ Nw m V ∧ e = .returned (.slice (some ⟨g, o, none⟩) m c)) ∧ w = w' := by
  go_enter Tryz.func155, Tryz.ntmps155
  go_wp2
  go_loop [3] (fun i => ∃ k : Nat, k ≤ n ∧ i = .int .i64 k ∧ V < 2 ^ (64 * k)) (fun i => (intOf i).toNat)
  case atStart => exact ⟨n, Nat.le_refl _, rfl, hV⟩
  case round =>
    obtain ⟨k, hk, rfl, hkV⟩ := hrel
    by_cases h0 : k = 0
    · subst h0
      go_wp2
      go_ret
      refine ⟨⟨0, by omega, ⟨hkV, fun h => absurd h (by omega)⟩, ?_⟩, rfl⟩
      simp
    · have hcell := hc (k - 1) (by omega)
      by_cases hz : wd V (k - 1) = 0
      · go_wp2
        go_round
        case rel => exact ⟨k - 1, by omega, by go_num, lt_of_wd_zero (by rw [show k - 1 + 1 = k from by omega]; exact hkV) hz⟩
        case measure => simp [intOf]; omega
      · go_wp2
        go_ret
        exact ⟨⟨k, hk, ⟨hkV, fun _ => le_of_wd_ne hz⟩, rfl⟩, rfl⟩
theorem norm_zero (a : Option Addr) (c : Nat) (w : World) :
    Calls Tryz.prog 155 #[.slice a 0 c] w fun e w' => e = .returned (.slice a 0 c) ∧ w = w' := by
  go_enter Tryz.func155, Tryz.ntmps155
  go_wp2
  refine wp_loop_rounds 1 ?_
  rw [rounds_succ]
  go_wp2
  go_ret
  exact ⟨rfl, rfl⟩

/-- copy of a whole number into a new row -/
theorem set_some (gx ox cx n V : Nat) (w : World) (h0 : 0 < n) (hn : n ≤ 2147483648) (hg : gx < w.heap.size)
    (hc : ∀ i, i < n → w.cell? ⟨gx, ox + i, none⟩ = some (.int .u64 (wd V i))) :
    Calls Tryz.prog 156 #[.slice none 0 0, .slice (some ⟨gx, ox, none⟩) n cx] w fun e w' => ∃ g c, g = w.heap.size ∧ n ≤ c ∧ c ≤ n + 4 ∧ e = .returned (.slice (some ⟨g, 0, none⟩) n c) ∧ Below w.heap.size w w' ∧
      (∃ f, Row w' g 228 c f ∧ ∀ i, i < n → f i = .int .u64 (wd V i)) := by
  go_enter Tryz.func156, Tryz.ntmps156
  go_wp2_with fail
  refine (make_gt _ _ _ n _ h0 hn).mono ?_
  rintro e w' ⟨c, hc1, ⟨hc2, _⟩, rfl, rfl⟩
  have hrow := Row.made w 228 c (.int .u64 0)
  have hcx2 : ∀ i, i < n → (w.alloc (.cells (madeCells #[.int .u64 0] c) 228)).cell? ⟨gx, ox + i, none⟩ = some (.int .u64 (wd V i)) := fun i hi => (World.cell?_of_block (w := w) (Below.heap_alloc w _ gx hg)).trans (hc i hi)
  have hb1 : Below w.heap.size w (w.alloc (.cells (madeCells #[.int .u64 0] c) 228)) := (Below.refl _ _).alloc (Nat.le_refl _) _
  obtain ⟨g, hgg⟩ : ∃ g, g = w.heap.size := ⟨_, rfl⟩
  rw [← hgg] at hrow ⊢
  have HG := Lib.hid hgg; clear hgg
  generalize w.alloc (.cells (madeCells #[.int .u64 0] c) 228) = w1 at *
  have hk := Lib.hid (show n = Nat.min n n by simp)
  go_wp2_with ((with_reducible show wpList _ _ _ _ _ _); refine wpList_copy_fn rfl (.tmp 9) (.tmp 10) 140 140 rfl 228 natUnder natSize g 0 n c n cx (some ⟨gx, ox, none⟩) rfl rfl 228 c _ (fun i => .int .u64 (wd V i)) hrow n hk.out (fun _ => ⟨_, rfl, fun j hj => by rw [add_at]; exact hcx2 j hj⟩) (fun _ _ => rfl) (by omega) ?_; intro w2 hr2 hch)
  go_ret
  refine ⟨g, c, HG.out, hc1, hc2, rfl, ?_, _, hr2.out, fun i hi => ?_⟩
  · exact Chg.below hb1 hb1.size hch.out.1 (by rw [HG.out]; exact Nat.le_refl _)
  · show (if _ then _ else _) = _
    rw [if_pos ⟨by omega, by omega⟩, Nat.sub_zero]
theorem set_zero (b : Option Addr) (cx : Nat) (w : World) :
    Calls Tryz.prog 156 #[.slice none 0 0, .slice b 0 cx] w fun e w' => e = .returned (.slice none 0 0) ∧ w = w' := by
  go_enter Tryz.func156, Tryz.ntmps156
  go_wp2_with (first | (go_at_call 153; refine (make_le _ _ _ 0 _ (by omega)).mono ?_; rintro e w' ⟨rfl, rfl⟩) | ((with_reducible show wpList _ _ _ _ _ _); refine wpList_copy_nothing rfl (.tmp 9) (.tmp 10) 140 140 rfl 228 natUnder natSize none b 0 0 0 cx rfl rfl (by simp) ?_))
  go_ret
  exact ⟨rfl, rfl⟩

end Go.Proofs.YtgohhebffcldeaaGreatDoor
