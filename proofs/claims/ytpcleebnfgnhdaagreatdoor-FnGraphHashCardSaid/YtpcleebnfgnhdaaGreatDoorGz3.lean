import Derived.Test.YtpcleebnfgnhdaaGreatDoorGz2
import Derived.StillTailTactics
import Derived.Deep.RegionWith
import Derived.Deep.RegionHeld3
import Derived.Deep.RegionLaw
/- Walks: shifting to the left: lshVU, lsh. -/
set_option linter.unusedVariables false
set_option linter.unusedSimpArgs false
namespace Go.Proofs.YtpcleebnfgnhdaaGreatDoor
open Go.RowKit
open Num

theorem and63 (s : Nat) (hs : s < 64) : bits .and .u64 (s : Int) 63 = (s : Int) := by
  have := u64_and_nat s 63 (by omega) (by omega)
  rw [show ((63 : Nat) : Int) = 63 from rfl] at this
  rw [this]
  have := Nat.and_two_pow_sub_one_eq_mod s 6
  simp at this
  rw [this]; omega
theorem shl_or (V k s i : Nat) (hs0 : 0 < s) (hs : s < 64) :
    bits .or .u64 (IntKind.u64.wrap ((wd V (i + 1) : Int) * 2 ^ s)) ((wd V i : Int) / 2 ^ (64 - s)) = (wd (V * 2 ^ (64 * k + s)) (k + (i + 1)) : Int) := by
  rw [wd_shl_next V k s i hs0 hs]
  have h1 := wd_lt V i
  have hq : wd V i / 2 ^ (64 - s) ≤ wd V i := Nat.div_le_self _ _
  have e1 : IntKind.u64.wrap ((wd V (i + 1) : Int) * 2 ^ s) = ((wd V (i + 1) * 2 ^ s % 2 ^ 64 : Nat) : Int) := by
    simp only [IntKind.wrap_u64]
    simp
  have e2 : ((wd V i : Int) / 2 ^ (64 - s)) = ((wd V i / 2 ^ (64 - s) : Nat) : Int) := by simp
  rw [e1, e2]
  exact u64_or_nat _ _ (Nat.mod_lt _ (by decide)) (by omega)
theorem shl_first (V k s : Nat) (hs : s < 64) : IntKind.u64.wrap ((wd V 0 : Int) * 2 ^ s) = (wd (V * 2 ^ (64 * k + s)) k : Int) := by
  rw [wd_shl_first V k s hs]
  simp only [IntKind.wrap_u64]
  simp

theorem lshVU_g_any (g off N c m gx ox cx V k s : Nat) (f : Nat → Value) (w : World) (hrow : Row w g 246 N f) (hgx : gx ≠ g) (hgw : gx < w.heap.size) (h0 : 0 < m) (hm : m ≤ 2147483648) (hs0 : 0 < s) (hs : s < 64) (hfit : off + m ≤ N)
    (hc : ∀ i, i < m → w.cell? ⟨gx, ox + i, none⟩ = some (.int .u64 (wd V i))) :
    Calls Tryz.prog 227 #[.slice (some ⟨g, off, none⟩) m c, .slice (some ⟨gx, ox, none⟩) m cx, .int .u64 s] w fun e w' => e = .returned (.int .u64 ((wd V (m - 1) / 2 ^ (64 - s) : Nat) : Int)) ∧ (Chg g w w' ∧ w'.heap.size = w.heap.size) ∧
      ∃ f', Row w' g 246 N f' ∧ (∀ i, i < m → f' (off + i) = .int .u64 (wd (V * 2 ^ (64 * k + s)) (k + i))) ∧ ∀ j, (j < off ∨ off + m ≤ j) → f' j = f j := by
  have e1 := and63 s hs
  have e2 := and63 (64 - s) (by omega)
  have e3 : ((64 - s : Nat) : Int) = 64 - (s : Int) := by omega
  rw [e3] at e2
  clear e3
  have es : ((s : Int) == 0) = false := by simp; omega
  have em : ((m : Int) == 0) = false := by simp; omega
  have htop := hc (m - 1) (by omega)
  have HC := Lib.hid hc; clear hc
  go_enter Tryz.func227, Tryz.ntmps227
  go_wp2_with fail
  go_loopw [8] (fun i wr => ∃ k' : Nat, ∃ f', k' < m ∧ i = .int .i64 k' ∧ Row wr g 246 N f' ∧ Hid (∀ i, k' < i → i < m → f' (off + i) = .int .u64 (wd (V * 2 ^ (64 * k + s)) (k + i))) ∧ Hid (∀ j, (j < off ∨ off + m ≤ j) → f' j = f j) ∧ Hid (Chg g w wr ∧ wr.heap.size = w.heap.size)) (fun i _ => (intOf i).toNat)
  case atStart => exact ⟨m - 1, f, by omega, by go_num, hrow, fun i h1 h2 => absurd h1 (by omega), fun j _ => rfl, ⟨Chg.refl _ _, rfl⟩⟩
  case round =>
    obtain ⟨k', f', hk, rfl, hr, HF, HO, HG⟩ := hrel
    have hcx : ∀ i, i < m → wr.cell? ⟨gx, ox + i, none⟩ = some (.int .u64 (wd V i)) := fun i hi => by
      rw [HG.out.1.cell (p := ⟨gx, ox + i, none⟩) hgw hgx]; exact HC.out i hi
    have ck := hr.cell (i := off + k') (by omega)
    have fk := hr.frozen (off + k')
    have hx1 := hcx k' hk
    have HR := Lib.hid hr; clear hr
    by_cases hk0 : 0 < k'
    · have hx2 := hcx (k' - 1) (by omega)
      have hor := shl_or V k s (k' - 1) hs0 hs
      rw [show k' - 1 + 1 = k' by omega] at hor
      clear hcx
      go_wp2_with fail
      go_region
      all_goals
        go_wp2
        go_roundw
        case rel =>
          refine ⟨k' - 1, _, by omega, by go_num, (HR.out.set (off + k') _).drew, fun i h1 h2 => ?_, fun j hj => ?_, ⟨(HG.out.1.set _ _).drew, by have := HG.out.2; simpa [World.setCell] using this⟩⟩
          · show (if _ then _ else _) = _
            by_cases e : i = k'
            · subst e; rw [if_pos rfl]
            · rw [if_neg (by omega)]; exact HF.out i (by omega) h2
          · show (if _ then _ else _) = _
            rw [if_neg (by omega)]; exact HO.out j hj
        case measure => simp [intOf]; omega
    · obtain rfl : k' = 0 := by omega
      have hx0 : wr.cell? ⟨gx, ox, none⟩ = some (.int .u64 (wd V 0)) := hx1
      have ck0 : wr.cell? ⟨g, off, none⟩ = some (f' off) := ck
      have fk0 : wr.frozen? ⟨g, off, none⟩ = false := fk
      have hfi := shl_first V k s hs
      clear hcx
      go_wp2
      go_ret
      refine ⟨by simp, ⟨HG.out.1.set _ _, by have := HG.out.2; simpa [World.setCell] using this⟩, _, HR.out.set (off + 0) _, fun i hi => ?_, fun j hj => ?_⟩
      · show (if _ then _ else _) = _
        by_cases e : i = 0
        · subst e; rw [if_pos rfl, Nat.add_zero]
        · rw [if_neg (by omega)]; exact HF.out i (by omega) hi
      · show (if _ then _ else _) = _
        rw [if_neg (by omega)]; exact HO.out j hj

theorem lshVU_any (g off N c m gx ox cx V k s : Nat) (f : Nat → Value) (w : World) (hrow : Row w g 246 N f) (hgx : gx ≠ g) (hgw : gx < w.heap.size) (h0 : 0 < m) (hm : m ≤ 2147483648) (hs0 : 0 < s) (hs : s < 64) (hfit : off + m ≤ N)
    (hc : ∀ i, i < m → w.cell? ⟨gx, ox + i, none⟩ = some (.int .u64 (wd V i))) :
    Calls Tryz.prog 209 #[.slice (some ⟨g, off, none⟩) m c, .slice (some ⟨gx, ox, none⟩) m cx, .int .u64 s] w fun e w' => e = .returned (.int .u64 ((wd V (m - 1) / 2 ^ (64 - s) : Nat) : Int)) ∧ (Chg g w w' ∧ w'.heap.size = w.heap.size) ∧
      ∃ f', Row w' g 246 N f' ∧ (∀ i, i < m → f' (off + i) = .int .u64 (wd (V * 2 ^ (64 * k + s)) (k + i))) ∧ ∀ j, (j < off ∨ off + m ≤ j) → f' j = f j := by
  have H := Lib.hid (lshVU_g_any g off N c m gx ox cx V k s f w hrow hgx hgw h0 hm hs0 hs hfit hc)
  clear hc hrow
  go_enter Tryz.func209, Tryz.ntmps209
  go_wp2_with fail
  refine H.out.mono ?_
  rintro e w' ⟨rfl, h⟩
  have HH := Lib.hid h; clear h
  go_wp2
  go_ret
  exact ⟨rfl, HH.out⟩

theorem lsh_fin (V s q r m : Nat) (hs : s = 64 * q + r) (f' : Nat → Value) (h1 : ∀ i, i < m → f' (q + i) = .int .u64 (wd (V * 2 ^ (64 * q + r)) (q + i))) (h2 : f' (m + q) = .int .u64 (wd (V * 2 ^ (64 * q + r)) (q + m))) :
    ∀ i, i < m + q + 1 → (if 0 ≤ i ∧ i < 0 + q then Value.int .u64 0 else f' i) = .int .u64 (wd (V * 2 ^ s) i) := by
  intro i hi
  rw [hs]
  by_cases c1 : i < q
  · rw [if_pos (by omega), wd_shl_low V q r i c1]; rfl
  · rw [if_neg (by omega)]
    obtain ⟨j, rfl⟩ : ∃ j, i = q + j := ⟨i - q, by omega⟩
    by_cases c2 : j = m
    · subst c2; rw [show q + j = j + q by omega, h2, show j + q = q + j by omega]
    · exact h1 j (by omega)
theorem wd_shl_top {V q r m : Nat} (hV : V < 2 ^ (64 * m)) (h0 : 0 < m) (hr0 : 0 < r) (hr : r < 64) : wd V (m - 1) / 2 ^ (64 - r) = wd (V * 2 ^ (64 * q + r)) (q + m) := by
  have h := wd_shl_next V q r (m - 1) hr0 hr
  rw [show m - 1 + 1 = m by omega, wd_high hV (Nat.le_refl _)] at h
  rw [h]; simp

set_option maxRecDepth 100000 in
theorem lsh_some (a : Option Addr) (len cap gx ox cx m V s : Nat) (w : World) (hgw : gx < w.heap.size) (h0 : 0 < m) (hs0 : 0 < s) (hb : m + s / 64 ≤ 2147483000) (hcap : cap < m + s / 64 + 1) (hV : V < 2 ^ (64 * m))
    (hc : ∀ i, i < m → w.cell? ⟨gx, ox + i, none⟩ = some (.int .u64 (wd V i))) :
    Calls Tryz.prog 194 #[.slice a len cap, .slice (some ⟨gx, ox, none⟩) m cx, .int .u64 s] w fun e w' => ∃ n g c, g = w.heap.size ∧ Nw n (V * 2 ^ s) ∧ n ≤ c ∧ c ≤ 2147483647 ∧ e = .returned (.slice (some ⟨g, 0, none⟩) n c) ∧ Below w.heap.size w w' ∧
      (∃ f, Row w' g 246 c f ∧ ∀ i, i < n → f i = .int .u64 (wd (V * 2 ^ s) i)) := by
  obtain ⟨q, hq⟩ : ∃ q, q = s / 64 := ⟨_, rfl⟩
  obtain ⟨r, hr⟩ : ∃ r, r = s % 64 := ⟨_, rfl⟩
  have hsq : s = 64 * q + r := by omega
  have hr64 : r < 64 := by omega
  rw [← hq] at hb hcap
  have iq : (s : Int) / 64 = (q : Int) := by omega
  have ir : (s : Int) % 64 = (r : Int) := by omega
  have es : ((s : Int) == 0) = false := by simp; omega
  have em : ((m : Int) == 0) = false := by simp; omega
  have hW : V * 2 ^ s < 2 ^ (64 * (m + q + 1)) := by rw [hsq]; exact shl_lt hV hr64
  have HSQ := Lib.hid hsq
  have hs2 : s ≤ 64 * q + r := by omega
  clear hsq hq hr
  have HC := Lib.hid hc; clear hc
  go_enter Tryz.func194, Tryz.ntmps194
  go_wp2_with fail
  rw [show ((m : Int) + (q : Int) + 1) = ((m + q + 1 : Nat) : Int) by omega]
  refine (make_gt _ _ _ (m + q + 1) _ hcap (by omega)).mono ?_
  rintro e w' ⟨c, hc1, ⟨hc2, _⟩, rfl, rfl⟩
  have hrow := Row.made w 246 c (.int .u64 0)
  have hb1 : Below w.heap.size w (w.alloc (.cells (madeCells #[.int .u64 0] c) 246)) := (Below.refl _ _).alloc (Nat.le_refl _) _
  obtain ⟨g, hgg⟩ : ∃ g, g = w.heap.size := ⟨_, rfl⟩
  rw [← hgg] at hrow ⊢
  have HG := Lib.hid hgg; clear hgg
  have hgx : gx ≠ g := by have := HG.out; omega
  generalize w.alloc (.cells (madeCells #[.int .u64 0] c) 246) = w1 at *
  have hgw1 : gx < w1.heap.size := Nat.lt_of_lt_of_le hgw hb1.size
  have hcx : ∀ i, i < m → w1.cell? ⟨gx, ox + i, none⟩ = some (.int .u64 (wd V i)) := fun i hi => by
    rw [hb1.cell (p := ⟨gx, ox + i, none⟩) hgw]; exact HC.out i hi
  have HCX := Lib.hid hcx; clear hcx
  have HR := Lib.hid hrow; clear hrow
  by_cases hr0 : r = 0
  · subst hr0
    have hmq : ((m : Int) + (q : Int)).toNat = m + q := by omega
    have hk := Lib.hid (show m = Nat.min m m by simp)
    go_wp2_with (first | ((with_reducible show wpList _ _ _ _ _ _); refine wpList_copy_fn rfl (.tmp 46) (.tmp 47) 210 210 rfl 246 natUnder natSize g q m (c - q) m cx (some ⟨gx, ox, none⟩) rfl rfl 246 c _ (fun i => .int .u64 (wd V i)) HR.out m hk.out (fun _ => ⟨_, rfl, fun j hj => by rw [add_at]; exact HCX.out j hj⟩) (fun _ _ => rfl) (by omega) ?_; intro w2 hr2 hch2; have c2 := hr2.out.cell (i := m + q) (by omega); have f2 := hr2.out.frozen (m + q)) | ((with_reducible show wpList _ _ _ _ _ _); refine wpList_clear_fn rfl (.tmp 68) 210 rfl 246 natUnder (.int .u64 0) natZero rfl rfl g 0 q c rfl 246 c _ (hr2.out.set (m + q) (.int .u64 0)) (by omega) ?_; intro w3 hr3 hch3))
    have hfin := fun i hi => lsh_fin V s q 0 m HSQ.out (fun j => if j = m + q then .int .u64 0 else if q ≤ j ∧ j < q + m then .int .u64 (wd V (j - q)) else .int .u64 0) (fun i hi => by
      show (if _ then _ else if _ then _ else _) = _
      rw [if_neg (by omega), if_pos (by omega), show 64 * q + 0 = 64 * q by omega, wd_shl_words, show q + i - q = i by omega]) (by
      show (if _ then _ else _) = _
      rw [if_pos rfl, show 64 * q + 0 = 64 * q by omega, wd_shl_words, wd_high hV (Nat.le_refl _)]; rfl) i hi
    refine (norm_row (m := m + q + 1) hr3.out hfin hW hc1 (by omega)).mono ?_
    rintro e w' ⟨⟨m', hm', hNw, rfl⟩, rfl⟩
    have HFI := Lib.hid hfin; clear hfin
    go_wp2
    go_ret
    exact ⟨m', g, c, HG.out, hNw, by omega, by omega, rfl, Chg.below hb1 hb1.size ((hch2.out.1.set _ _).trans hch3.out.1) (by rw [HG.out]; exact Nat.le_refl _), _, hr3.out, fun i hi => HFI.out i (by omega)⟩
  · have er : ((r : Int) == 0) = false := by simp; omega
    go_wp2_with fail
    refine (lshVU_any g q c (c - q) m gx ox cx V q r _ w1 HR.out hgx hgw1 h0 (by omega) (by omega) hr64 (by omega) HCX.out).mono ?_
    rintro e w2 ⟨rfl, hch2, f', hr2, hf2, ho2⟩
    have c2 := hr2.cell (i := m + q) (by omega)
    have f2 := hr2.frozen (m + q)
    have HR2 := Lib.hid hr2; clear hr2
    have HF2 := Lib.hid hf2; clear hf2
    have HO2 := Lib.hid ho2; clear ho2
    have HCH2 := Lib.hid hch2; clear hch2
    go_wp2_with ((with_reducible show wpList _ _ _ (⟨_, .call { callee := .builtin .clear, args := #[.tmp 68], argTypes := #[210] }, _, _, _, _⟩ :: _) _ _); refine wpList_clear_fn rfl (.tmp 68) 210 rfl 246 natUnder (.int .u64 0) natZero rfl rfl g 0 _ _ rfl 246 c _ (HR2.out.set (m + q) _) (by omega) ?_; intro w3 hr3 hch3)
    rw [show m + q - m = q by omega] at hr3
    have hfin := fun i hi => lsh_fin V s q r m HSQ.out (fun j => if j = m + q then .int .u64 ((wd V (m - 1) : Int) / 2 ^ (64 - r)) else f' j) (fun i hi => by
      show (if _ then _ else _) = _
      rw [if_neg (by omega)]; exact HF2.out i hi) (by
      show (if _ then _ else _) = _
      rw [if_pos rfl, ← wd_shl_top hV h0 (by omega) hr64]; simp) i hi
    refine (norm_row (m := m + q + 1) hr3.out hfin hW hc1 (by omega)).mono ?_
    rintro e w' ⟨⟨m', hm', hNw, rfl⟩, rfl⟩
    have HFI := Lib.hid hfin; clear hfin
    go_wp2
    go_ret
    exact ⟨m', g, c, HG.out, hNw, by omega, by omega, rfl, Chg.below hb1 hb1.size ((HCH2.out.1.set _ _).trans hch3.out.1) (by rw [HG.out]; exact Nat.le_refl _), _, hr3.out, fun i hi => HFI.out i (by omega)⟩

end Go.Proofs.YtpcleebnfgnhdaaGreatDoor

/- Walks: nat.bytes: the bytes of a number out of its words. -/
set_option linter.unusedVariables false
set_option linter.unusedSimpArgs false
namespace Go.Proofs.YtpcleebnfgnhdaaGreatDoor
open Go.RowKit
open Num

theorem byte_of (V k j : Nat) (hj : j < 8) : ((wd V k / 2 ^ (8 * j) : Nat) : Int) % 256 = (dg V (8 * k + j) : Int) := by
  rw [← dg_wd V k j hj]; omega
theorem shr_byte (V k j : Nat) : ((wd V k / 2 ^ (8 * j) : Nat) : Int) / 256 = ((wd V k / 2 ^ (8 * (j + 1)) : Nat) : Int) := by
  rw [show 8 * (j + 1) = 8 * j + 8 by omega, Nat.pow_add, ← Nat.div_div_eq_div_mul]
  omega

def BytesPost (g n V : Nat) (w : World) (e : Ending) (w' : World) : Prop :=
  ∃ r f', r ≤ 8 * n ∧ Nb (8 * n - r) V ∧ e = .returned (.int .i64 r) ∧ Row w' g 5 (8 * n) f' ∧ (∀ p, p < 8 * n → f' p = .int .u8 (dg V (8 * n - 1 - p))) ∧ Chg g w w' ∧ w'.heap.size = w.heap.size

theorem bytes_some (g c gx ox cx n V : Nat) (w : World) (f : Nat → Value) (hrow : Row w g 5 (8 * n) f) (hgx : gx ≠ g) (hgw : gx < w.heap.size) (hn : n ≤ 16777216) (hV : V < 2 ^ (64 * n))
    (hc : ∀ i, i < n → w.cell? ⟨gx, ox + i, none⟩ = some (.int .u64 (wd V i))) :
    Calls Tryz.prog 93 #[.slice (some ⟨gx, ox, none⟩) n cx, .slice (some ⟨g, 0, none⟩) (8 * n) c] w (BytesPost g n V w) := by
  have HC := Lib.hid hc; clear hc
  go_enter Tryz.func93, Tryz.ntmps93
  go_wp2_with fail
  go_loopw [4, 12] (fun i x wr => ∃ k : Nat, ∃ f', k ≤ n ∧ i = .int .i64 (8 * (n : Int) - 8 * k) ∧ x = .int .i64 k ∧ Row wr g 5 (8 * n) f' ∧ Hid (∀ p, 8 * n - 8 * k ≤ p → p < 8 * n → f' p = .int .u8 (dg V (8 * n - 1 - p))) ∧ Hid (Chg g w wr ∧ wr.heap.size = w.heap.size)) (fun _ x _ => n - (intOf x).toNat)
  case atStart => exact ⟨0, f, by omega, by go_num, rfl, hrow, fun p h1 h2 => absurd h1 (by omega), ⟨Chg.refl _ _, rfl⟩⟩
  case round =>
    obtain ⟨k, f', hk, rfl, rfl, hr, HF, HG⟩ := hrel
    by_cases hkn : k < n
    · have hck : wr.cell? ⟨gx, ox + k, none⟩ = some (.int .u64 (wd V k)) := by
        rw [HG.out.1.cell (p := ⟨gx, ox + k, none⟩) hgw hgx]; exact HC.out k hkn
      have HR := Lib.hid hr; clear hr
      obtain ⟨wo, rfl⟩ : ∃ wo : World, wo = wr := ⟨_, rfl⟩
      go_wp2_with fail
      go_loopw [4, 6, 7] (fun i d j wi => ∃ j' : Nat, ∃ fi, j' ≤ 8 ∧ i = .int .i64 (8 * (n : Int) - 8 * k - j') ∧ d = .int .u64 ((wd V k / 2 ^ (8 * j') : Nat) : Int) ∧ j = .int .i64 j' ∧ Row wi g 5 (8 * n) fi ∧ Hid (∀ p, 8 * n - 8 * k - j' ≤ p → p < 8 * n → fi p = .int .u8 (dg V (8 * n - 1 - p))) ∧ Hid (Chg g w wi ∧ wi.heap.size = w.heap.size)) (fun _ _ j _ => 8 - (intOf j).toNat)
      case atStart => exact ⟨0, f', by omega, by go_num, by simp, rfl, HR.out, fun p h1 h2 => HF.out p (by omega) h2, HG.out⟩
      case round =>
        obtain ⟨j, fi, hj, rfl, rfl, rfl, hri, HFI, HGI⟩ := hrel
        have hb := byte_of V k j
        have hsh := shr_byte V k j
        have hwl := wd_lt V k
        have hwd : wd V k / 2 ^ (8 * j) ≤ wd V k := Nat.div_le_self _ _
        obtain ⟨x, hx⟩ : ∃ x, x = wd V k / 2 ^ (8 * j) := ⟨_, rfl⟩
        rw [← hx] at hb hsh hwd ⊢
        clear hx
        by_cases hj8 : j < 8
        · have hb' := hb hj8
          clear hb
          have ci := hri.cell (i := 8 * n - 8 * k - j - 1) (by omega)
          have fr := hri.frozen (8 * n - 8 * k - j - 1)
          have HRI := Lib.hid hri; clear hri
          go_wp2
          go_roundw
          case rel =>
            refine ⟨j + 1, _, by omega, by go_num, by simp, by go_num, HRI.out.set _ _, fun p h1 h2 => ?_, ⟨HGI.out.1.set _ _, by have := HGI.out.2; simpa [World.setCell] using this⟩⟩
            show (if _ then _ else _) = _
            by_cases e : p = 8 * n - 8 * k - j - 1
            · rw [if_pos e, show 8 * n - 1 - p = 8 * k + j by omega]
            · rw [if_neg e]; exact HFI.out p (by omega) h2
          case measure => simp [intOf]; omega
        · clear hb
          obtain rfl : j = 8 := by omega
          have HRI := Lib.hid hri; clear hri
          go_wp2
          go_roundw
          case rel => exact ⟨k + 1, fi, by omega, by go_num, by go_num, HRI.out, fun p h1 h2 => HFI.out p (by omega) h2, HGI.out⟩
          case measure => simp [intOf]; omega
    · obtain rfl : k = n := by omega
      have HR := Lib.hid hr; clear hr
      go_wp2_with fail
      go_loop [4] (fun i => ∃ r : Nat, r ≤ 8 * k ∧ i = .int .i64 r ∧ V < 2 ^ (8 * (8 * k - r))) (fun i => 8 * k - (intOf i).toNat)
      case atStart => exact ⟨0, by omega, by go_num, by rw [show 8 * (8 * k - 0) = 64 * k by omega]; exact hV⟩
      case round =>
        obtain ⟨r, hr, rfl, hrV⟩ := hrel
        by_cases hr8 : r < 8 * k
        · have cr : wr.cell? ⟨g, r, none⟩ = some (.int .u8 (dg V (8 * k - 1 - r))) := by
            rw [HR.out.cell hr8, HF.out r (by omega) hr8]
          by_cases hz : dg V (8 * k - 1 - r) = 0
          · go_wp2
            go_round
            case rel =>
              refine ⟨r + 1, by omega, by go_num, ?_⟩
              have := lt_of_dg_zero (n := 8 * k - 1 - r) (by rw [show 8 * k - 1 - r + 1 = 8 * k - r by omega]; exact hrV) hz
              rw [show 8 * k - (r + 1) = 8 * k - 1 - r by omega]; exact this
            case measure => simp [intOf]; omega
          · go_wp2
            go_ret
            exact ⟨r, f', by omega, ⟨hrV, fun _ => by have := le_of_dg_ne hz; rwa [show 8 * k - r - 1 = 8 * k - 1 - r by omega]⟩, rfl, HR.out, fun p hp => HF.out p (by omega) hp, HG.out.1, HG.out.2⟩
        · obtain rfl : r = 8 * k := by omega
          go_wp2
          go_ret
          exact ⟨8 * k, f', by omega, ⟨hrV, fun h => absurd h (by omega)⟩, rfl, HR.out, fun p hp => HF.out p (by omega) hp, HG.out.1, HG.out.2⟩

end Go.Proofs.YtpcleebnfgnhdaaGreatDoor

/- Walks: the integers of the package (*Int). -/
set_option linter.unusedVariables false
set_option linter.unusedSimpArgs false
namespace Go.Proofs.YtpcleebnfgnhdaaGreatDoor
open Go.RowKit
open Num

theorem under_pInt : Tryz.prog.underlying 106 = some (.pointer 212) := by kernel_rfl
theorem info_Int : ∃ j, Tryz.prog.info? 212 = some j ∧ j.size ≠ 0 := by
  have h : (Tryz.prog.info? 212).map (·.size) = some 2 := by kernel_rfl
  obtain ⟨j, hj, hs⟩ := Option.map_eq_some_iff.1 h
  exact ⟨j, hj, by omega⟩

/-- the slice s holds V in n words, in a block that is new since w; or n is 0 and s is nil -/
def NatNew (w w' : World) (s : Value) (n V : Nat) : Prop :=
  (n = 0 ∧ V = 0 ∧ s = .slice none 0 0) ∨ (0 < n ∧ V < 2 ^ (64 * n) ∧ ∃ g c f, s = .slice (some ⟨g, 0, none⟩) n c ∧ w.heap.size ≤ g ∧ n ≤ c ∧ c ≤ 2147483651 ∧ Row w' g 246 c f ∧ ∀ i, i < n → f i = .int .u64 (wd V i))
/-- what a method of *Int leaves that sets its receiver at ⟨b, o⟩ -/
def IntSet (b o : Nat) (cz : Array Value) (tz : Nat) (neg : Bool) (n V : Nat) (w w' : World) : Prop :=
  ∃ s, NatNew w w' s n V ∧ Chg b w w' ∧ w'.heap[b]? = some (.cells ((cz.setIfInBounds (o + 1) s).setIfInBounds o (.bool neg)) tz (0, 0))

theorem NatNew.far {w w1 : World} {s : Value} {n V : Nat} (h : NatNew w w1 s n V) {p : Addr} (hp : p.block < w.heap.size) (v : Value) : NatNew w (w1.setCell p v) s n V := by
  rcases h with h | ⟨h0, hV, g, c, f, hs, hg, hc1, hc2, hr, hf⟩
  · exact .inl h
  · exact .inr ⟨h0, hV, g, c, f, hs, hg, hc1, hc2, hr.far (by omega) v, hf⟩
theorem NatNew.heap {w w1 w2 : World} {s : Value} {n V : Nat} (h : NatNew w w1 s n V) (hb : ∀ k, k < w1.heap.size → w.heap.size ≤ k → w2.heap[k]? = w1.heap[k]?) : NatNew w w2 s n V := by
  rcases h with h | ⟨h0, hV, g, c, f, hs, hg, hc1, hc2, hr, hf⟩
  · exact .inl h
  · exact .inr ⟨h0, hV, g, c, f, hs, hg, hc1, hc2, hr.keep (hb g hr.lt hg), hf⟩
theorem intSet_mk {b o tz n V : Nat} {cz : Array Value} {xn : Bool} {w w2 : World} {s : Value} (hb2 : Below w.heap.size w w2) (hz : w.heap[b]? = some (.cells cz tz (0, 0))) (hn : NatNew w w2 s n V) :
    IntSet b o cz tz xn n V w ((w2.setCell ⟨b, o + 1, none⟩ s).setCell ⟨b, o, none⟩ (.bool xn)) := by
  have hbl := (Array.getElem?_eq_some_iff.1 hz).1
  refine ⟨s, (hn.far hbl _).far hbl _, ((Chg.of_below hb2).set _ _).set _ _, ?_⟩
  have h2 : w2.heap[b]? = some (.cells cz tz (0, 0)) := (hb2.block b hbl).trans hz
  have e1 : (w2.setCell ⟨b, o + 1, none⟩ s).heap[b]? = some (.cells (cz.setIfInBounds (o + 1) s) tz (0, 0)) := by
    simp only [World.setCell, Array.getElem?_modify, if_true, h2, Option.map_some]; rfl
  simp only [World.setCell, Array.getElem?_modify, if_true] at e1 ⊢
  simp only [e1, Option.map_some]; rfl

theorem Int_Set_some (b o bx ox gx px cx n V : Nat) (cz ca : Array Value) (tz ta : Nat) (zn xn : Bool) (w : World) (hV : V < 2 ^ (64 * n)) (h0 : 0 < n) (hn : n ≤ 2147483647) (hgx : gx < w.heap.size)
    (hz : w.heap[b]? = some (.cells cz tz (0, 0))) (hx : w.heap[bx]? = some (.cells ca ta (0, 0)))
    (z0 : cz[o]? = some (.bool zn)) (z1 : cz[o + 1]? = some (.slice none 0 0))
    (x0 : ca[ox]? = some (.bool xn)) (x1 : ca[ox + 1]? = some (.slice (some ⟨gx, px, none⟩) n cx)) (hne : b ≠ bx)
    (hc : ∀ i, i < n → w.cell? ⟨gx, px + i, none⟩ = some (.int .u64 (wd V i))) :
    Calls Tryz.prog 91 #[.pointer (some ⟨b, o, none⟩), .pointer (some ⟨bx, ox, none⟩)] w fun e w' => e = .returned (.pointer (some ⟨b, o, none⟩)) ∧ IntSet b o cz tz xn n V w w' := by
  have HS := fun W hb h => Lib.hid (set_some gx px cx n V W h0 (by omega) hb h)
  obtain ⟨j, hj, hjs⟩ := info_Int
  have hp := run_neq_ptr_other (P := Tryz.prog) w (a := ⟨b, o, none⟩) (b := ⟨bx, ox, none⟩) under_pInt hj hjs (by intro e; injection e with e; exact hne e) hz hx
  have hz0 : w.cell? ⟨b, o, none⟩ = some (.bool zn) := (cell_of_row w b o cz tz (0, 0) hz).trans z0
  have hz1 : w.cell? ⟨b, o + 1, none⟩ = some (.slice none 0 0) := (cell_of_row w b (o + 1) cz tz (0, 0) hz).trans z1
  have hx0 : w.cell? ⟨bx, ox, none⟩ = some (.bool xn) := (cell_of_row w bx ox ca ta (0, 0) hx).trans x0
  have hx1 : w.cell? ⟨bx, ox + 1, none⟩ = some (.slice (some ⟨gx, px, none⟩) n cx) := (cell_of_row w bx (ox + 1) ca ta (0, 0) hx).trans x1
  have hf0 : w.frozen? ⟨b, o, none⟩ = false := by simp [World.frozen?, hz]
  have hf1 : w.frozen? ⟨b, o + 1, none⟩ = false := by simp [World.frozen?, hz]
  have hbl := (Array.getElem?_eq_some_iff.1 hz).1
  have hbxl := (Array.getElem?_eq_some_iff.1 hx).1
  have HZ := Lib.hid hz; clear hz
  have HX := Lib.hid hx; clear hx
  have HC := Lib.hid hc; clear hc
  have Z0 := Lib.hid z0; clear z0
  have Z1 := Lib.hid z1; clear z1
  clear x0 x1 hj hjs
  go_enter Tryz.func91, Tryz.ntmps91
  go_wp2_with fail
  go_region_law (first | (go_simp; go_at_call 125; refine ((HS w.drew hgx (fun i hi => HC.out i hi)).out).mono ?_; rintro e w2 ⟨g, c, hg, hc1, hc2, rfl, hb2, f, hr2, hf2⟩; have q1 : w2.cell? ⟨b, o + 1, none⟩ = some (.slice none 0 0) := (hb2.cell (p := ⟨b, o + 1, none⟩) hbl).trans hz1; have q2 : w2.frozen? ⟨b, o + 1, none⟩ = false := (hb2.frozen (p := ⟨b, o + 1, none⟩) hbl).trans hf1; have q3 : w2.cell? ⟨bx, ox, none⟩ = some (.bool xn) := (hb2.cell (p := ⟨bx, ox, none⟩) hbxl).trans hx0; have q4 : w2.cell? ⟨b, o, none⟩ = some (.bool zn) := (hb2.cell (p := ⟨b, o, none⟩) hbl).trans hz0; have q5 : w2.frozen? ⟨b, o, none⟩ = false := (hb2.frozen (p := ⟨b, o, none⟩) hbl).trans hf0; have hgb : g ≠ b := (by have h9 : g = w.heap.size := hg; omega); have q6 : w2.cell? ⟨bx, ox + 1, none⟩ = some (.slice (some ⟨gx, px, none⟩) n cx) := (hb2.cell (p := ⟨bx, ox + 1, none⟩) hbxl).trans hx1; have HG := Lib.hid hg; clear hg; have HF2 := Lib.hid hf2; clear hf2; have HR2 := Lib.hid hr2; clear hr2))
  all_goals go_wp2
  all_goals go_ret
  all_goals exact ⟨rfl, intSet_mk (w := w) (below_undrew hb2) HZ.out (.inr ⟨h0, hV, g, c, f, rfl, by have h9 : g = w.heap.size := HG.out; omega, hc1, by omega, HR2.out, HF2.out⟩)⟩

end Go.Proofs.YtpcleebnfgnhdaaGreatDoor
