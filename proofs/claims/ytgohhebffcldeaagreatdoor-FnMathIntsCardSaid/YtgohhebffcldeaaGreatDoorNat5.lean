/- Walks: shifting to the left: lshVU, lsh. -/
import Derived.Test.YtgohhebffcldeaaGreatDoorNat4
import Derived.StillTailTactics
set_option linter.unusedVariables false
set_option linter.unusedSimpArgs false
namespace Go.Proofs.YtgohhebffcldeaaGreatDoor
open Go.RowKit
open Num

theorem and63 (s : Nat) (hs : s < 64) : bits .and .u64 (s : Int) 63 = (s : Int) := by
  have := u64_and_nat s 63 (by omega) (by omega)
  rw [show ((63 : Nat) : Int) = 63 from rfl] at this
  rw [this]
  have := Nat.and_two_pow_sub_one_eq_mod s 6
  simp at this
  rw [this]; omega
theorem shl_or (V k s i : Nat) (hs0 : 0 < s) (hs : s < 64) :
    bits .or .u64 (IntKind.u64.wrap ((wd V (i + 1) : Int) * 2 ^ s)) ((wd V i : Int) / 2 ^ (64 - s)) = (wd (V * 2 ^ (64 * k + s)) (k + (i + 1)) : Int) := by
  rw [wd_shl_next V k s i hs0 hs]
  have h1 := wd_lt V i
  have hq : wd V i / 2 ^ (64 - s) ≤ wd V i := Nat.div_le_self _ _
  have e1 : IntKind.u64.wrap ((wd V (i + 1) : Int) * 2 ^ s) = ((wd V (i + 1) * 2 ^ s % 2 ^ 64 : Nat) : Int) := by
    simp only [IntKind.wrap_u64]
    simp
  have e2 : ((wd V i : Int) / 2 ^ (64 - s)) = ((wd V i / 2 ^ (64 - s) : Nat) : Int) := by simp
  rw [e1, e2]
  exact u64_or_nat _ _ (Nat.mod_lt _ (by decide)) (by omega)
theorem shl_first (V k s : Nat) (hs : s < 64) : IntKind.u64.wrap ((wd V 0 : Int) * 2 ^ s) = (wd (V * 2 ^ (64 * k + s)) k : Int) := by
  rw [wd_shl_first V k s hs]
  simp only [IntKind.wrap_u64]
  simp

theorem lshVU_g_any (g off N c m gx ox cx V k s : Nat) (f : Nat → Value) (w : World) (hrow : Row w g 228 N f) (hgx : gx ≠ g) (hgw : gx < w.heap.size) (h0 : 0 < m) (hm : m ≤ 2147483648) (hs0 : 0 < s) (hs : s < 64) (hfit : off + m ≤ N)
    (hc : ∀ i, i < m → w.cell? ⟨gx, ox + i, none⟩ = some (.int .u64 (wd V i))) :
    Calls Tryz.prog 242 #[.slice (some ⟨g, off, none⟩) m c, .slice (some ⟨gx, ox, none⟩) m cx, .int .u64 s] w fun e w' => e = .returned (.int .u64 ((wd V (m - 1) / 2 ^ (64 - s) : Nat) : Int)) ∧ (Chg g w w' ∧ w'.heap.size = w.heap.size) ∧
      ∃ f', Row w' g 228 N f' ∧ (∀ i, i < m → f' (off + i) = .int .u64 (wd (V * 2 ^ (64 * k + s)) (k + i))) ∧ ∀ j, (j < off ∨ off + m ≤ j) → f' j = f j := by
  have e1 := and63 s hs
  have e2 := and63 (64 - s) (by omega)
  have e3 : ((64 - s : Nat) : Int) = 64 - (s : Int) := by omega
  rw [e3] at e2
  clear e3
  have es : ((s : Int) == 0) = false := by simp; omega
  have em : ((m : Int) == 0) = false := by simp; omega
  have htop := hc (m - 1) (by omega)
  have HC := Lib.hid hc; clear hc
  go_enter Tryz.func242, Tryz.ntmps242
  go_wp2_with fail
  go_loopw [8] (fun i wr => ∃ k' : Nat, ∃ f', k' < m ∧ i = .int .i64 k' ∧ Row wr g 228 N f' ∧ Hid (∀ i, k' < i → i < m → f' (off + i) = .int .u64 (wd (V * 2 ^ (64 * k + s)) (k + i))) ∧ Hid (∀ j, (j < off ∨ off + m ≤ j) → f' j = f j) ∧ Hid (Chg g w wr ∧ wr.heap.size = w.heap.size)) (fun i _ => (intOf i).toNat)
  case atStart => exact ⟨m - 1, f, by omega, by go_num, hrow, fun i h1 h2 => absurd h1 (by omega), fun j _ => rfl, ⟨Chg.refl _ _, rfl⟩⟩
  case round =>
    obtain ⟨k', f', hk, rfl, hr, HF, HO, HG⟩ := hrel
    have hcx : ∀ i, i < m → wr.cell? ⟨gx, ox + i, none⟩ = some (.int .u64 (wd V i)) := fun i hi => by
      rw [HG.out.1.cell (p := ⟨gx, ox + i, none⟩) hgw hgx]; exact HC.out i hi
    have ck := hr.cell (i := off + k') (by omega)
    have fk := hr.frozen (off + k')
    have hx1 := hcx k' hk
    have HR := Lib.hid hr; clear hr
    by_cases hk0 : 0 < k'
    · have hx2 := hcx (k' - 1) (by omega)
      have hor := shl_or V k s (k' - 1) hs0 hs
      rw [show k' - 1 + 1 = k' by omega] at hor
      clear hcx
      go_wp2_with fail
      go_region
      all_goals
        go_wp2
        go_roundw
        case rel =>
          refine ⟨k' - 1, _, by omega, by go_num, (HR.out.set (off + k') _).drew, fun i h1 h2 => ?_, fun j hj => ?_, ⟨(HG.out.1.set _ _).drew, by have := HG.out.2; simpa [World.setCell] using this⟩⟩
          · show (if _ then _ else _) = _
            by_cases e : i = k'
            · subst e; rw [if_pos rfl]
            · rw [if_neg (by omega)]; exact HF.out i (by omega) h2
          · show (if _ then _ else _) = _
            rw [if_neg (by omega)]; exact HO.out j hj
        case measure => simp [intOf]; omega
    · obtain rfl : k' = 0 := by omega
      have hx0 : wr.cell? ⟨gx, ox, none⟩ = some (.int .u64 (wd V 0)) := hx1
      have ck0 : wr.cell? ⟨g, off, none⟩ = some (f' off) := ck
      have fk0 : wr.frozen? ⟨g, off, none⟩ = false := fk
      have hfi := shl_first V k s hs
      clear hcx
      go_wp2
      go_ret
      refine ⟨by simp, ⟨HG.out.1.set _ _, by have := HG.out.2; simpa [World.setCell] using this⟩, _, HR.out.set (off + 0) _, fun i hi => ?_, fun j hj => ?_⟩
      · show (if _ then _ else _) = _
        by_cases e : i = 0
        · subst e; rw [if_pos rfl, Nat.add_zero]
        · rw [if_neg (by omega)]; exact HF.out i (by omega) hi
      · show (if _ then _ else _) = _
        rw [if_neg (by omega)]; exact HO.out j hj

theorem lshVU_any (g off N c m gx ox cx V k s : Nat) (f : Nat → Value) (w : World) (hrow : Row w g 228 N f) (hgx : gx ≠ g) (hgw : gx < w.heap.size) (h0 : 0 < m) (hm : m ≤ 2147483648) (hs0 : 0 < s) (hs : s < 64) (hfit : off + m ≤ N)
    (hc : ∀ i, i < m → w.cell? ⟨gx, ox + i, none⟩ = some (.int .u64 (wd V i))) :
    Calls Tryz.prog 221 #[.slice (some ⟨g, off, none⟩) m c, .slice (some ⟨gx, ox, none⟩) m cx, .int .u64 s] w fun e w' => e = .returned (.int .u64 ((wd V (m - 1) / 2 ^ (64 - s) : Nat) : Int)) ∧ (Chg g w w' ∧ w'.heap.size = w.heap.size) ∧
      ∃ f', Row w' g 228 N f' ∧ (∀ i, i < m → f' (off + i) = .int .u64 (wd (V * 2 ^ (64 * k + s)) (k + i))) ∧ ∀ j, (j < off ∨ off + m ≤ j) → f' j = f j := by
  have H := Lib.hid (lshVU_g_any g off N c m gx ox cx V k s f w hrow hgx hgw h0 hm hs0 hs hfit hc)
  clear hc hrow
  go_enter Tryz.func221, Tryz.ntmps221
  go_wp2_with fail
  refine H.out.mono ?_
  rintro e w' ⟨rfl, h⟩
  have HH := Lib.hid h; clear h
  go_wp2
  go_ret
  exact ⟨rfl, HH.out⟩

theorem lsh_fin (V s q r m : Nat) (hs : s = 64 * q + r) (f' : Nat → Value) (h1 : ∀ i, i < m → f' (q + i) = .int .u64 (wd (V * 2 ^ (64 * q + r)) (q + i))) (h2 : f' (m + q) = .int .u64 (wd (V * 2 ^ (64 * q + r)) (q + m))) :
    ∀ i, i < m + q + 1 → (if 0 ≤ i ∧ i < 0 + q then Value.int .u64 0 else f' i) = .int .u64 (wd (V * 2 ^ s) i) := by
  intro i hi
  rw [hs]
  by_cases c1 : i < q
  · rw [if_pos (by omega), wd_shl_low V q r i c1]; rfl
  · rw [if_neg (by omega)]
    obtain ⟨j, rfl⟩ : ∃ j, i = q + j := ⟨i - q, by omega⟩
    by_cases c2 : j = m
    · subst c2; rw [show q + j = j + q by omega, h2, show j + q = q + j by omega]
    · exact h1 j (by omega)
theorem wd_shl_top {V q r m : Nat} (hV : V < 2 ^ (64 * m)) (h0 : 0 < m) (hr0 : 0 < r) (hr : r < 64) : wd V (m - 1) / 2 ^ (64 - r) = wd (V * 2 ^ (64 * q + r)) (q + m) := by
  have h := wd_shl_next V q r (m - 1) hr0 hr
  rw [show m - 1 + 1 = m by omega, wd_high hV (Nat.le_refl _)] at h
  rw [h]; simp

set_option maxRecDepth 100000 in
theorem lsh_some (a : Option Addr) (len cap gx ox cx m V s : Nat) (w : World) (hgw : gx < w.heap.size) (h0 : 0 < m) (hs0 : 0 < s) (hb : m + s / 64 ≤ 2147483000) (hcap : cap < m + s / 64 + 1) (hV : V < 2 ^ (64 * m))
    (hc : ∀ i, i < m → w.cell? ⟨gx, ox + i, none⟩ = some (.int .u64 (wd V i))) :
    Calls Tryz.prog 201 #[.slice a len cap, .slice (some ⟨gx, ox, none⟩) m cx, .int .u64 s] w fun e w' => ∃ n g c, g = w.heap.size ∧ Nw n (V * 2 ^ s) ∧ n ≤ c ∧ c ≤ 2147483647 ∧ e = .returned (.slice (some ⟨g, 0, none⟩) n c) ∧ Below w.heap.size w w' ∧
      (∃ f, Row w' g 228 c f ∧ ∀ i, i < n → f i = .int .u64 (wd (V * 2 ^ s) i)) := by
  obtain ⟨q, hq⟩ : ∃ q, q = s / 64 := ⟨_, rfl⟩
  obtain ⟨r, hr⟩ : ∃ r, r = s % 64 := ⟨_, rfl⟩
  have hsq : s = 64 * q + r := by omega
  have hr64 : r < 64 := by omega
  rw [← hq] at hb hcap
  have iq : (s : Int) / 64 = (q : Int) := by omega
  have ir : (s : Int) % 64 = (r : Int) := by omega
  have es : ((s : Int) == 0) = false := by simp; omega
  have em : ((m : Int) == 0) = false := by simp; omega
  have hW : V * 2 ^ s < 2 ^ (64 * (m + q + 1)) := by rw [hsq]; exact shl_lt hV hr64
  have HSQ := Lib.hid hsq
  have hs2 : s ≤ 64 * q + r := by omega
  clear hsq hq hr
  have HC := Lib.hid hc; clear hc
  go_enter Tryz.func201, Tryz.ntmps201
  go_wp2_with fail
  rw [show ((m : Int) + (q : Int) + 1) = ((m + q + 1 : Nat) : Int) by omega]
  refine (make_gt _ _ _ (m + q + 1) _ hcap (by omega)).mono ?_
  rintro e w' ⟨c, hc1, ⟨hc2, _⟩, rfl, rfl⟩
  have hrow := Row.made w 228 c (.int .u64 0)
  have hb1 : Below w.heap.size w (w.alloc (.cells (madeCells #[.int .u64 0] c) 228)) := (Below.refl _ _).alloc (Nat.le_refl _) _
  obtain ⟨g, hgg⟩ : ∃ g, g = w.heap.size := ⟨_, rfl⟩
  rw [← hgg] at hrow ⊢
  have HG := Lib.hid hgg; clear hgg
  have hgx : gx ≠ g := by have := HG.out; omega
  generalize w.alloc (.cells (madeCells #[.int .u64 0] c) 228) = w1 at *
  have hgw1 : gx < w1.heap.size := Nat.lt_of_lt_of_le hgw hb1.size
  have hcx : ∀ i, i < m → w1.cell? ⟨gx, ox + i, none⟩ = some (.int .u64 (wd V i)) := fun i hi => by
    rw [hb1.cell (p := ⟨gx, ox + i, none⟩) hgw]; exact HC.out i hi
  have HCX := Lib.hid hcx; clear hcx
  have HR := Lib.hid hrow; clear hrow
  by_cases hr0 : r = 0
  · subst hr0
    have hmq : ((m : Int) + (q : Int)).toNat = m + q := by omega
    have hk := Lib.hid (show m = Nat.min m m by simp)
    go_wp2_with (first | ((with_reducible show wpList _ _ _ _ _ _); refine wpList_copy_fn rfl (.tmp 46) (.tmp 47) 140 140 rfl 228 natUnder natSize g q m (c - q) m cx (some ⟨gx, ox, none⟩) rfl rfl 228 c _ (fun i => .int .u64 (wd V i)) HR.out m hk.out (fun _ => ⟨_, rfl, fun j hj => by rw [add_at]; exact HCX.out j hj⟩) (fun _ _ => rfl) (by omega) ?_; intro w2 hr2 hch2; have c2 := hr2.out.cell (i := m + q) (by omega); have f2 := hr2.out.frozen (m + q)) | ((with_reducible show wpList _ _ _ _ _ _); refine wpList_clear_fn rfl (.tmp 68) 140 rfl 228 natUnder (.int .u64 0) natZero rfl rfl g 0 q c rfl 228 c _ (hr2.out.set (m + q) (.int .u64 0)) (by omega) ?_; intro w3 hr3 hch3))
    have hfin := fun i hi => lsh_fin V s q 0 m HSQ.out (fun j => if j = m + q then .int .u64 0 else if q ≤ j ∧ j < q + m then .int .u64 (wd V (j - q)) else .int .u64 0) (fun i hi => by
      show (if _ then _ else if _ then _ else _) = _
      rw [if_neg (by omega), if_pos (by omega), show 64 * q + 0 = 64 * q by omega, wd_shl_words, show q + i - q = i by omega]) (by
      show (if _ then _ else _) = _
      rw [if_pos rfl, show 64 * q + 0 = 64 * q by omega, wd_shl_words, wd_high hV (Nat.le_refl _)]; rfl) i hi
    refine (norm_row (m := m + q + 1) hr3.out hfin hW hc1 (by omega)).mono ?_
    rintro e w' ⟨⟨m', hm', hNw, rfl⟩, rfl⟩
    have HFI := Lib.hid hfin; clear hfin
    go_wp2
    go_ret
    exact ⟨m', g, c, HG.out, hNw, by omega, by omega, rfl, Chg.below hb1 hb1.size ((hch2.out.1.set _ _).trans hch3.out.1) (by rw [HG.out]; exact Nat.le_refl _), _, hr3.out, fun i hi => HFI.out i (by omega)⟩
  · have er : ((r : Int) == 0) = false := by simp; omega
    go_wp2_with fail
    refine (lshVU_any g q c (c - q) m gx ox cx V q r _ w1 HR.out hgx hgw1 h0 (by omega) (by omega) hr64 (by omega) HCX.out).mono ?_
    rintro e w2 ⟨rfl, hch2, f', hr2, hf2, ho2⟩
    have c2 := hr2.cell (i := m + q) (by omega)
    have f2 := hr2.frozen (m + q)
    have HR2 := Lib.hid hr2; clear hr2
    have HF2 := Lib.hid hf2; clear hf2
    have HO2 := Lib.hid ho2; clear ho2
    have HCH2 := Lib.hid hch2; clear hch2
    go_wp2_with ((with_reducible show wpList _ _ _ (⟨_, .call { callee := .builtin .clear, args := #[.tmp 68], argTypes := #[140] }, _, _, _, _⟩ :: _) _ _); refine wpList_clear_fn rfl (.tmp 68) 140 rfl 228 natUnder (.int .u64 0) natZero rfl rfl g 0 _ _ rfl 228 c _ (HR2.out.set (m + q) _) (by omega) ?_; intro w3 hr3 hch3)
    rw [show m + q - m = q by omega] at hr3
    have hfin := fun i hi => lsh_fin V s q r m HSQ.out (fun j => if j = m + q then .int .u64 ((wd V (m - 1) : Int) / 2 ^ (64 - r)) else f' j) (fun i hi => by
      show (if _ then _ else _) = _
      rw [if_neg (by omega)]; exact HF2.out i hi) (by
      show (if _ then _ else _) = _
      rw [if_pos rfl, ← wd_shl_top hV h0 (by omega) hr64]; simp) i hi
    refine (norm_row (m := m + q + 1) hr3.out hfin hW hc1 (by omega)).mono ?_
    rintro e w' ⟨⟨m', hm', hNw, rfl⟩, rfl⟩
    have HFI := Lib.hid hfin; clear hfin
    go_wp2
    go_ret
    exact ⟨m', g, c, HG.out, hNw, by omega, by omega, rfl, Chg.below hb1 hb1.size ((HCH2.out.1.set _ _).trans hch3.out.1) (by rw [HG.out]; exact Nat.le_refl _), _, hr3.out, fun i hi => HFI.out i (by omega)⟩

end Go.Proofs.YtgohhebffcldeaaGreatDoor
