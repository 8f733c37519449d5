/- Walks: nat.bytes: the bytes of a number out of its words. -/
import Derived.Test.YtgohhebffcldeaaGreatDoorNat5
set_option linter.unusedVariables false
set_option linter.unusedSimpArgs false
namespace Go.Proofs.YtgohhebffcldeaaGreatDoor
open Go.RowKit
open Num

theorem byte_of (V k j : Nat) (hj : j < 8) : ((wd V k / 2 ^ (8 * j) : Nat) : Int) % 256 = (dg V (8 * k + j) : Int) := by
  rw [← dg_wd V k j hj]; omega
theorem shr_byte (V k j : Nat) : ((wd V k / 2 ^ (8 * j) : Nat) : Int) / 256 = ((wd V k / 2 ^ (8 * (j + 1)) : Nat) : Int) := by
  rw [show 8 * (j + 1) = 8 * j + 8 by omega, Nat.pow_add, ← Nat.div_div_eq_div_mul]
  omega

def BytesPost (g n V : Nat) (w : World) (e : Ending) (w' : World) : Prop :=
  ∃ r f', r ≤ 8 * n ∧ Nb (8 * n - r) V ∧ e = .returned (.int .i64 r) ∧ Row w' g 5 (8 * n) f' ∧ (∀ p, p < 8 * n → f' p = .int .u8 (dg V (8 * n - 1 - p))) ∧ Chg g w w' ∧ w'.heap.size = w.heap.size

theorem bytes_some (g c gx ox cx n V : Nat) (w : World) (f : Nat → Value) (hrow : Row w g 5 (8 * n) f) (hgx : gx ≠ g) (hgw : gx < w.heap.size) (hn : n ≤ 16777216) (hV : V < 2 ^ (64 * n))
    (hc : ∀ i, i < n → w.cell? ⟨gx, ox + i, none⟩ = some (.int .u64 (wd V i))) :
    Calls Tryz.prog 160 #[.slice (some ⟨gx, ox, none⟩) n cx, .slice (some ⟨g, 0, none⟩) (8 * n) c] w (BytesPost g n V w) := by
  have HC := Lib.hid hc; clear hc
  go_enter Tryz.func160, Tryz.ntmps160
  go_wp2_with fail
  go_loopw [4, 12] (fun i x wr => ∃ k : Nat, ∃ f', k ≤ n ∧ i = .int .i64 (8 * (n : Int) - 8 * k) ∧ x = .int .i64 k ∧ Row wr g 5 (8 * n) f' ∧ Hid (∀ p, 8 * n - 8 * k ≤ p → p < 8 * n → f' p = .int .u8 (dg V (8 * n - 1 - p))) ∧ Hid (Chg g w wr ∧ wr.heap.size = w.heap.size)) (fun _ x _ => n - (intOf x).toNat)
  case atStart => exact ⟨0, f, by omega, by go_num, rfl, hrow, fun p h1 h2 => absurd h1 (by omega), ⟨Chg.refl _ _, rfl⟩⟩
  case round =>
    obtain ⟨k, f', hk, rfl, rfl, hr, HF, HG⟩ := hrel
    by_cases hkn : k < n
    · have hck : wr.cell? ⟨gx, ox + k, none⟩ = some (.int .u64 (wd V k)) := by
        rw [HG.out.1.cell (p := ⟨gx, ox + k, none⟩) hgw hgx]; exact HC.out k hkn
      have HR := Lib.hid hr; clear hr
      obtain ⟨wo, rfl⟩ : ∃ wo : World, wo = wr := ⟨_, rfl⟩
      go_wp2_with fail
      go_loopw [4, 6, 7] (fun i d j wi => ∃ j' : Nat, ∃ fi, j' ≤ 8 ∧ i = .int .i64 (8 * (n : Int) - 8 * k - j') ∧ d = .int .u64 ((wd V k / 2 ^ (8 * j') : Nat) : Int) ∧ j = .int .i64 j' ∧ Row wi g 5 (8 * n) fi ∧ Hid (∀ p, 8 * n - 8 * k - j' ≤ p → p < 8 * n → fi p = .int .u8 (dg V (8 * n - 1 - p))) ∧ Hid (Chg g w wi ∧ wi.heap.size = w.heap.size)) (fun _ _ j _ => 8 - (intOf j).toNat)
      case atStart => exact ⟨0, f', by omega, by go_num, by simp, rfl, HR.out, fun p h1 h2 => HF.out p (by omega) h2, HG.out⟩
      case round =>
        obtain ⟨j, fi, hj, rfl, rfl, rfl, hri, HFI, HGI⟩ := hrel
        have hb := byte_of V k j
        have hsh := shr_byte V k j
        have hwl := wd_lt V k
        have hwd : wd V k / 2 ^ (8 * j) ≤ wd V k := Nat.div_le_self _ _
        obtain ⟨x, hx⟩ : ∃ x, x = wd V k / 2 ^ (8 * j) := ⟨_, rfl⟩
        rw [← hx] at hb hsh hwd ⊢
        clear hx
        by_cases hj8 : j < 8
        · have hb' := hb hj8
          clear hb
          have ci := hri.cell (i := 8 * n - 8 * k - j - 1) (by omega)
          have fr := hri.frozen (8 * n - 8 * k - j - 1)
          have HRI := Lib.hid hri; clear hri
          go_wp2
          go_roundw
          case rel =>
            refine ⟨j + 1, _, by omega, by go_num, by simp, by go_num, HRI.out.set _ _, fun p h1 h2 => ?_, ⟨HGI.out.1.set _ _, by have := HGI.out.2; simpa [World.setCell] using this⟩⟩
            show (if _ then _ else _) = _
            by_cases e : p = 8 * n - 8 * k - j - 1
            · rw [if_pos e, show 8 * n - 1 - p = 8 * k + j by omega]
            · rw [if_neg e]; exact HFI.out p (by omega) h2
          case measure => simp [intOf]; omega
        · clear hb
          obtain rfl : j = 8 := by omega
          have HRI := Lib.hid hri; clear hri
          go_wp2
          go_roundw
          case rel => exact ⟨k + 1, fi, by omega, by go_num, by go_num, HRI.out, fun p h1 h2 => HFI.out p (by omega) h2, HGI.out⟩
          case measure => simp [intOf]; omega
    · obtain rfl : k = n := by omega
      have HR := Lib.hid hr; clear hr
      go_wp2_with fail
      go_loop [4] (fun i => ∃ r : Nat, r ≤ 8 * k ∧ i = .int .i64 r ∧ V < 2 ^ (8 * (8 * k - r))) (fun i => 8 * k - (intOf i).toNat)
      case atStart => exact ⟨0, by omega, by go_num, by rw [show 8 * (8 * k - 0) = 64 * k by omega]; exact hV⟩
      case round =>
        obtain ⟨r, hr, rfl, hrV⟩ := hrel
        by_cases hr8 : r < 8 * k
        · have cr : wr.cell? ⟨g, r, none⟩ = some (.int .u8 (dg V (8 * k - 1 - r))) := by
            rw [HR.out.cell hr8, HF.out r (by omega) hr8]
          by_cases hz : dg V (8 * k - 1 - r) = 0
          · go_wp2
            go_round
            case rel =>
              refine ⟨r + 1, by omega, by go_num, ?_⟩
              have := lt_of_dg_zero (n := 8 * k - 1 - r) (by rw [show 8 * k - 1 - r + 1 = 8 * k - r by omega]; exact hrV) hz
              rw [show 8 * k - (r + 1) = 8 * k - 1 - r by omega]; exact this
            case measure => simp [intOf]; omega
          · go_wp2
            go_ret
            exact ⟨r, f', by omega, ⟨hrV, fun _ => by have := le_of_dg_ne hz; rwa [show 8 * k - r - 1 = 8 * k - 1 - r by omega]⟩, rfl, HR.out, fun p hp => HF.out p (by omega) hp, HG.out.1, HG.out.2⟩
        · obtain rfl : r = 8 * k := by omega
          go_wp2
          go_ret
          exact ⟨8 * k, f', by omega, ⟨hrV, fun h => absurd h (by omega)⟩, rfl, HR.out, fun p hp => HF.out p (by omega) hp, HG.out.1, HG.out.2⟩

end Go.Proofs.YtgohhebffcldeaaGreatDoor
