/- Walks: laws.is. -/
import Derived.Test.YtalpkahhfjkeiaaGreatDoorSpec2
set_option linter.unusedVariables false
set_option linter.unusedSimpArgs false
namespace Go.Proofs.YtalpkahhfjkeiaaGreatDoor
open Go.RowKit
open Num

theorem is_same (neg : Bool) (s1 s2 : Value) (n V : Nat) (w : World) (h1 : MagAt w s1 n V) (h2 : MagAt w s2 n V) (hn : n ≤ 9223372036854775807) :
    Calls Tryz.prog 6 #[valInt neg s1, .agg #[.bool neg, s2]] w fun e w' => e = .returned (.bool true) ∧ Below w.heap.size w w' := by
  have hb0 : Below w.heap.size w ((w.alloc (.cells #[.int .i64 2, .bool neg, s1, .int .u64 0, .string ⟨#[]⟩, .slice none 0 0] 28)).alloc (.cells #[.bool neg, s2] 25)) := ((Below.refl _ _).alloc (Nat.le_refl _) _).alloc (by simp) _
  rcases h1.2 with ⟨rfl, a, c, rfl⟩ | ⟨h0, g, p, c, rfl, hnc, hg, hc⟩
  · rcases h2.2 with ⟨_, a2, c2, rfl⟩ | ⟨h, _⟩
    · clear h1 h2
      go_enter Tryz.func6, Tryz.ntmps6
      all_goals go_wp2_with fail
      all_goals refine wp_loop_rounds 1 ?_
      all_goals rw [rounds_succ]
      all_goals go_wp2
      all_goals go_ret
      all_goals exact ⟨rfl, hb0⟩
    · omega
  · rcases h2.2 with ⟨h, _⟩ | ⟨_, g2, p2, c2, rfl, hnc2, hg2, hc2⟩
    · omega
    · have HC := Lib.hid hc
      have HC2 := Lib.hid hc2
      clear h1 h2 hc hc2
      go_enter Tryz.func6, Tryz.ntmps6
      all_goals go_wp2_with fail
      all_goals (
        have x0 := (cell_of_row _ _ 2 _ _ (0, 0) (heap2_0 w (.cells #[.int .i64 2, .bool neg, .slice (some ⟨g, p, none⟩) n c, .int .u64 0, .string ⟨#[]⟩, .slice none 0 0] 28) (.cells #[.bool neg, .slice (some ⟨g2, p2, none⟩) n c2] 25))).trans rfl
        have x1 := (cell_of_row _ _ 1 _ _ (0, 0) (heap2_1 w (.cells #[.int .i64 2, .bool neg, .slice (some ⟨g, p, none⟩) n c, .int .u64 0, .string ⟨#[]⟩, .slice none 0 0] 28) (.cells #[.bool neg, .slice (some ⟨g2, p2, none⟩) n c2] 25))).trans rfl
        have HC' := Lib.hid (fun i hi => (hb0.cell (p := ⟨g, p + i, none⟩) hg).trans (HC.out i hi))
        have HC2' := Lib.hid (fun i hi => (hb0.cell (p := ⟨g2, p2 + i, none⟩) hg2).trans (HC2.out i hi))
        have HB := Lib.hid hb0
        clear hb0 HC HC2
        generalize ((w.alloc (.cells #[.int .i64 2, .bool neg, .slice (some ⟨g, p, none⟩) n c, .int .u64 0, .string ⟨#[]⟩, .slice none 0 0] 28)).alloc (.cells #[.bool neg, .slice (some ⟨g2, p2, none⟩) n c2] 25)) = w2 at *
        go_loopw [44] (fun i wr => ∃ k q : Nat, k ≤ n ∧ i = .int .i64 k ∧ wr = w2.drewN q) (fun i _ => n - (intOf i).toNat)
        case atStart => exact ⟨0, 0, by omega, by go_num, rfl⟩
        case round =>
          obtain ⟨k, q, hk, rfl, rfl⟩ := hrel
          by_cases hkn : k < n
          · have e1 := HC'.out k hkn
            have e2 := HC2'.out k hkn
            go_wp2_with fail
            go_quiet (fail)
            go_wp2
            go_roundw
            case rel => exact ⟨k + 1, _, by omega, by go_num, rfl⟩
            case measure => simp [intOf]; omega
          · obtain rfl : k = n := by omega
            go_wp2
            go_ret
            exact ⟨rfl, below_drewN HB.out⟩)

end Go.Proofs.YtalpkahhfjkeiaaGreatDoor
