import Derived.Test.YtjkmppdmejgjiaaGreatDoorEz2
import Derived.StillTailTactics
import Derived.Deep.RegionWith
import Derived.Deep.RegionHeld3
import Derived.Deep.RegionLaw
/- Walks: shifting to the left: lshVU, lsh. -/
set_option linter.unusedVariables false
set_option linter.unusedSimpArgs false
namespace Go.Proofs.YtjkmppdmejgjiaaGreatDoor
open Go.RowKit
open Num

theorem and63 (s : Nat) (hs : s < 64) : bits .and .u64 (s : Int) 63 = (s : Int) := by
  have := u64_and_nat s 63 (by omega) (by omega)
  rw [show ((63 : Nat) : Int) = 63 from rfl] at this
  rw [this]
  have := Nat.and_two_pow_sub_one_eq_mod s 6
  simp at this
  rw [this]; omega
theorem shl_or (V k s i : Nat) (hs0 : 0 < s) (hs : s < 64) :
    bits .or .u64 (IntKind.u64.wrap ((wd V (i + 1) : Int) * 2 ^ s)) ((wd V i : Int) / 2 ^ (64 - s)) = (wd (V * 2 ^ (64 * k + s)) (k + (i + 1)) : Int) := by
  rw [wd_shl_next V k s i hs0 hs]
  have h1 := wd_lt V i
  have hq : wd V i / 2 ^ (64 - s) ≤ wd V i := Nat.div_le_self _ _
  have e1 : IntKind.u64.wrap ((wd V (i + 1) : Int) * 2 ^ s) = ((wd V (i + 1) * 2 ^ s % 2 ^ 64 : Nat) : Int) := by
    simp only [IntKind.wrap_u64]
    simp
  have e2 : ((wd V i : Int) / 2 ^ (64 - s)) = ((wd V i / 2 ^ (64 - s) : Nat) : Int) := by simp
  rw [e1, e2]
  exact u64_or_nat _ _ (Nat.mod_lt _ (by decide)) (by omega)
theorem shl_first (V k s : Nat) (hs : s < 64) : IntKind.u64.wrap ((wd V 0 : Int) * 2 ^ s) = (wd (V * 2 ^ (64 * k + s)) k : Int) := by
  rw [wd_shl_first V k s hs]
  simp only [IntKind.wrap_u64]
  simp

theorem lshVU_g_any (g off N c m gx ox cx V k s : Nat) (f : Nat → Value) (w : World) (hrow : Row w g 195 N f) (hgx : gx ≠ g) (hgw : gx < w.heap.size) (h0 : 0 < m) (hm : m ≤ 2147483648) (hs0 : 0 < s) (hs : s < 64) (hfit : off + m ≤ N)
    (hc : ∀ i, i < m → w.cell? ⟨gx, ox + i, none⟩ = some (.int .u64 (wd V i))) :
    Calls Tryz.prog 163 #[.slice (some ⟨g, off, none⟩) m c, .slice (some ⟨gx, ox, none⟩) m cx, .int .u64 s] w fun e w' => e = .returned (.int .u64 ((wd V (m - 1) / 2 ^ (64 - s) : Nat) : Int)) ∧ (Chg g w w' ∧ w'.heap.size = w.heap.size) ∧
      ∃ f', Row w' g 195 N f' ∧ (∀ i, i < m → f' (off + i) = .int .u64 (wd (V * 2 ^ (64 * k + s)) (k + i))) ∧ ∀ j, (j < off ∨ off + m ≤ j) → f' j = f j := by
  have e1 := and63 s hs
  have e2 := and63 (64 - s) (by omega)
  have e3 : ((64 - s : Nat) : Int) = 64 - (s : Int) := by omega
  rw [e3] at e2
  clear e3
  have es : ((s : Int) == 0) = false := by simp; omega
  have em : ((m : Int) == 0) = false := by simp; omega
  have htop := hc (m - 1) (by omega)
  have HC := Lib.hid hc; clear hc
  go_enter Tryz.func163, Tryz.ntmps163
  go_wp2_with fail
  go_loopw [8] (fun i wr => ∃ k' : Nat, ∃ f', k' < m ∧ i = .int .i64 k' ∧ Row wr g 195 N f' ∧ Hid (∀ i, k' < i → i < m → f' (off + i) = .int .u64 (wd (V * 2 ^ (64 * k + s)) (k + i))) ∧ Hid (∀ j, (j < off ∨ off + m ≤ j) → f' j = f j) ∧ Hid (Chg g w wr ∧ wr.heap.size = w.heap.size)) (fun i _ => (intOf i).toNat)
  case atStart => exact ⟨m - 1, f, by omega, by go_num, hrow, fun i h1 h2 => absurd h1 (by omega), fun j _ => rfl, ⟨Chg.refl _ _, rfl⟩⟩
  case round =>
    obtain ⟨k', f', hk, rfl, hr, HF, HO, HG⟩ := hrel
    have hcx : ∀ i, i < m → wr.cell? ⟨gx, ox + i, none⟩ = some (.int .u64 (wd V i)) := fun i hi => by
      rw [HG.out.1.cell (p := ⟨gx, ox + i, none⟩) hgw hgx]; exact HC.out i hi
    have ck := hr.cell (i := off + k') (by omega)
    have fk := hr.frozen (off + k')
    have hx1 := hcx k' hk
    have HR := Lib.hid hr; clear hr
    by_cases hk0 : 0 < k'
    · have hx2 := hcx (k' - 1) (by omega)
      have hor := shl_or V k s (k' - 1) hs0 hs
      rw [show k' - 1 + 1 = k' by omega] at hor
      clear hcx
      go_wp2_with fail
      go_region
      all_goals
        go_wp2
        go_roundw
        case rel =>
          refine ⟨k' - 1, _, by omega, by go_num, (HR.out.set (off + k') _).drew, fun i h1 h2 => ?_, fun j hj => ?_, ⟨(HG.out.1.set _ _).drew, by have := HG.out.2; simpa [World.setCell] using this⟩⟩
          · show (if _ then _ else _) = _
            by_cases e : i = k'
            · subst e; rw [if_pos rfl]
            · rw [if_neg (by omega)]; exact HF.out i (by omega) h2
          · show (if _ then _ else _) = _
            rw [if_neg (by omega)]; exact HO.out j hj
        case measure => simp [intOf]; omega
    · obtain rfl : k' = 0 := by omega
      have hx0 : wr.cell? ⟨gx, ox, none⟩ = some (.int .u64 (wd V 0)) := hx1
      have ck0 : wr.cell? ⟨g, off, none⟩ = some (f' off) := ck
      have fk0 : wr.frozen? ⟨g, off, none⟩ = false := fk
      have hfi := shl_first V k s hs
      clear hcx
      go_wp2
      go_ret
      refine ⟨by simp, ⟨HG.out.1.set _ _, by have := HG.out.2; simpa [World.setCell] using this⟩, _, HR.out.set (off + 0) _, fun i hi => ?_, fun j hj => ?_⟩
      · show (if _ then _ else _) = _
        by_cases e : i = 0
        · subst e; rw [if_pos rfl, Nat.add_zero]
        · rw [if_neg (by omega)]; exact HF.out i (by omega) hi
      · show (if _ then _ else _) = _
        rw [if_neg (by omega)]; exact HO.out j hj

theorem lshVU_any (g off N c m gx ox cx V k s : Nat) (f : Nat → Value) (w : World) (hrow : Row w g 195 N f) (hgx : gx ≠ g) (hgw : gx < w.heap.size) (h0 : 0 < m) (hm : m ≤ 2147483648) (hs0 : 0 < s) (hs : s < 64) (hfit : off + m ≤ N)
    (hc : ∀ i, i < m → w.cell? ⟨gx, ox + i, none⟩ = some (.int .u64 (wd V i))) :
    Calls Tryz.prog 144 #[.slice (some ⟨g, off, none⟩) m c, .slice (some ⟨gx, ox, none⟩) m cx, .int .u64 s] w fun e w' => e = .returned (.int .u64 ((wd V (m - 1) / 2 ^ (64 - s) : Nat) : Int)) ∧ (Chg g w w' ∧ w'.heap.size = w.heap.size) ∧
      ∃ f', Row w' g 195 N f' ∧ (∀ i, i < m → f' (off + i) = .int .u64 (wd (V * 2 ^ (64 * k + s)) (k + i))) ∧ ∀ j, (j < off ∨ off + m ≤ j) → f' j = f j := by
  have H := Lib.hid (lshVU_g_any g off N c m gx ox cx V k s f w hrow hgx hgw h0 hm hs0 hs hfit hc)
  clear hc hrow
  go_enter Tryz.func144, Tryz.ntmps144
  go_wp2_with fail
  refine H.out.mono ?_
  rintro e w' ⟨rfl, h⟩
  have HH := Lib.hid h; clear h
  go_wp2
  go_ret
  exact ⟨rfl, HH.out⟩

theorem lsh_fin (V s q r m : Nat) (hs : s = 64 * q + r) (f' : Nat → Value) (h1 : ∀ i, i < m → f' (q + i) = .int .u64 (wd (V * 2 ^ (64 * q + r)) (q + i))) (h2 : f' (m + q) = .int .u64 (wd (V * 2 ^ (64 * q + r)) (q + m))) :
    ∀ i, i < m + q + 1 → (if 0 ≤ i ∧ i < 0 + q then Value.int .u64 0 else f' i) = .int .u64 (wd (V * 2 ^ s) i) := by
  intro i hi
  rw [hs]
  by_cases c1 : i < q
  · rw [if_pos (by omega), wd_shl_low V q r i c1]; rfl
  · rw [if_neg (by omega)]
    obtain ⟨j, rfl⟩ : ∃ j, i = q + j := ⟨i - q, by omega⟩
    by_cases c2 : j = m
    · subst c2; rw [show q + j = j + q by omega, h2, show j + q = q + j by omega]
    · exact h1 j (by omega)
theorem wd_shl_top {V q r m : Nat} (hV : V < 2 ^ (64 * m)) (h0 : 0 < m) (hr0 : 0 < r) (hr : r < 64) : wd V (m - 1) / 2 ^ (64 - r) = wd (V * 2 ^ (64 * q + r)) (q + m) := by
  have h := wd_shl_next V q r (m - 1) hr0 hr
  rw [show m - 1 + 1 = m by omega, wd_high hV (Nat.le_refl _)] at h
  rw [h]; simp

set_option maxRecDepth 100000 in
theorem lsh_some (a : Option Addr) (len cap gx ox cx m V s : Nat) (w : World) (hgw : gx < w.heap.size) (h0 : 0 < m) (hs0 : 0 < s) (hb : m + s / 64 ≤ 2147483000) (hcap : cap < m + s / 64 + 1) (hV : V < 2 ^ (64 * m))
    (hc : ∀ i, i < m → w.cell? ⟨gx, ox + i, none⟩ = some (.int .u64 (wd V i))) :
    Calls Tryz.prog 124 #[.slice a len cap, .slice (some ⟨gx, ox, none⟩) m cx, .int .u64 s] w fun e w' => ∃ n g c, g = w.heap.size ∧ Nw n (V * 2 ^ s) ∧ n ≤ c ∧ c ≤ 2147483647 ∧ e = .returned (.slice (some ⟨g, 0, none⟩) n c) ∧ Below w.heap.size w w' ∧
      (∃ f, Row w' g 195 c f ∧ ∀ i, i < n → f i = .int .u64 (wd (V * 2 ^ s) i)) := by
  obtain ⟨q, hq⟩ : ∃ q, q = s / 64 := ⟨_, rfl⟩
  obtain ⟨r, hr⟩ : ∃ r, r = s % 64 := ⟨_, rfl⟩
  have hsq : s = 64 * q + r := by omega
  have hr64 : r < 64 := by omega
  rw [← hq] at hb hcap
  have iq : (s : Int) / 64 = (q : Int) := by omega
  have ir : (s : Int) % 64 = (r : Int) := by omega
  have es : ((s : Int) == 0) = false := by simp; omega
  have em : ((m : Int) == 0) = false := by simp; omega
  have hW : V * 2 ^ s < 2 ^ (64 * (m + q + 1)) := by rw [hsq]; exact shl_lt hV hr64
  have HSQ := Lib.hid hsq
  have hs2 : s ≤ 64 * q + r := by omega
  clear hsq hq hr
  have HC := Lib.hid hc; clear hc
  go_enter Tryz.func124, Tryz.ntmps124
  go_wp2_with fail
  rw [show ((m : Int) + (q : Int) + 1) = ((m + q + 1 : Nat) : Int) by omega]
  refine (make_gt _ _ _ (m + q + 1) _ hcap (by omega)).mono ?_
  rintro e w' ⟨c, hc1, ⟨hc2, _⟩, rfl, rfl⟩
  have hrow := Row.made w 195 c (.int .u64 0)
  have hb1 : Below w.heap.size w (w.alloc (.cells (madeCells #[.int .u64 0] c) 195)) := (Below.refl _ _).alloc (Nat.le_refl _) _
  obtain ⟨g, hgg⟩ : ∃ g, g = w.heap.size := ⟨_, rfl⟩
  rw [← hgg] at hrow ⊢
  have HG := Lib.hid hgg; clear hgg
  have hgx : gx ≠ g := by have := HG.out; omega
  generalize w.alloc (.cells (madeCells #[.int .u64 0] c) 195) = w1 at *
  have hgw1 : gx < w1.heap.size := Nat.lt_of_lt_of_le hgw hb1.size
  have hcx : ∀ i, i < m → w1.cell? ⟨gx, ox + i, none⟩ = some (.int .u64 (wd V i)) := fun i hi => by
    rw [hb1.cell (p := ⟨gx, ox + i, none⟩) hgw]; exact HC.out i hi
  have HCX := Lib.hid hcx; clear hcx
  have HR := Lib.hid hrow; clear hrow
  by_cases hr0 : r = 0
  · subst hr0
    have hmq : ((m : Int) + (q : Int)).toNat = m + q := by omega
    have hk := Lib.hid (show m = Nat.min m m by simp)
    go_wp2_with (first | ((with_reducible show wpList _ _ _ _ _ _); refine wpList_copy_fn rfl (.tmp 46) (.tmp 47) 157 157 rfl 195 natUnder natSize g q m (c - q) m cx (some ⟨gx, ox, none⟩) rfl rfl 195 c _ (fun i => .int .u64 (wd V i)) HR.out m hk.out (fun _ => ⟨_, rfl, fun j hj => by rw [add_at]; exact HCX.out j hj⟩) (fun _ _ => rfl) (by omega) ?_; intro w2 hr2 hch2; have c2 := hr2.out.cell (i := m + q) (by omega); have f2 := hr2.out.frozen (m + q)) | ((with_reducible show wpList _ _ _ _ _ _); refine wpList_clear_fn rfl (.tmp 68) 157 rfl 195 natUnder (.int .u64 0) natZero rfl rfl g 0 q c rfl 195 c _ (hr2.out.set (m + q) (.int .u64 0)) (by omega) ?_; intro w3 hr3 hch3))
    have hfin := fun i hi => lsh_fin V s q 0 m HSQ.out (fun j => if j = m + q then .int .u64 0 else if q ≤ j ∧ j < q + m then .int .u64 (wd V (j - q)) else .int .u64 0) (fun i hi => by
      show (if _ then _ else if _ then _ else _) = _
      rw [if_neg (by omega), if_pos (by omega), show 64 * q + 0 = 64 * q by omega, wd_shl_words, show q + i - q = i by omega]) (by
      show (if _ then _ else _) = _
      rw [if_pos rfl, show 64 * q + 0 = 64 * q by omega, wd_shl_words, wd_high hV (Nat.le_refl _)]; rfl) i hi
    refine (norm_row (m := m + q + 1) hr3.out hfin hW hc1 (by omega)).mono ?_
    rintro e w' ⟨⟨m', hm', hNw, rfl⟩, rfl⟩
    have HFI := Lib.hid hfin; clear hfin
    go_wp2
    go_ret
    exact ⟨m', g, c, HG.out, hNw, by omega, by omega, rfl, Chg.below hb1 hb1.size ((hch2.out.1.set _ _).trans hch3.out.1) (by rw [HG.out]; exact Nat.le_refl _), _, hr3.out, fun i hi => HFI.out i (by omega)⟩
  · have er : ((r : Int) == 0) = false := by simp; omega
    go_wp2_with fail
    refine (lshVU_any g q c (c - q) m gx ox cx V q r _ w1 HR.out hgx hgw1 h0 (by omega) (by omega) hr64 (by omega) HCX.out).mono ?_
    rintro e w2 ⟨rfl, hch2, f', hr2, hf2, ho2⟩
    have c2 := hr2.cell (i := m + q) (by omega)
    have f2 := hr2.frozen (m + q)
    have HR2 := Lib.hid hr2; clear hr2
    have HF2 := Lib.hid hf2; clear hf2
    have HO2 := Lib.hid ho2; clear ho2
    have HCH2 := Lib.hid hch2; clear hch2
    go_wp2_with ((with_reducible show wpList _ _ _ (⟨_, .call { callee := .builtin .clear, args := #[.tmp 68], argTypes := #[157] }, _, _, _, _⟩ :: _) _ _); refine wpList_clear_fn rfl (.tmp 68) 157 rfl 195 natUnder (.int .u64 0) natZero rfl rfl g 0 _ _ rfl 195 c _ (HR2.out.set (m + q) _) (by omega) ?_; intro w3 hr3 hch3)
    rw [show m + q - m = q by omega] at hr3
    have hfin := fun i hi => lsh_fin V s q r m HSQ.out (fun j => if j = m + q then .int .u64 ((wd V (m - 1) : Int) / 2 ^ (64 - r)) else f' j) (fun i hi => by
      show (if _ then _ else _) = _
      rw [if_neg (by omega)]; exact HF2.out i hi) (by
      show (if _ then _ else _) = _
      rw [if_pos rfl, ← wd_shl_top hV h0 (by omega) hr64]; simp) i hi
    refine (norm_row (m := m + q + 1) hr3.out hfin hW hc1 (by omega)).mono ?_
    rintro e w' ⟨⟨m', hm', hNw, rfl⟩, rfl⟩
    have HFI := Lib.hid hfin; clear hfin
    go_wp2
    go_ret
    exact ⟨m', g, c, HG.out, hNw, by omega, by omega, rfl, Chg.below hb1 hb1.size ((HCH2.out.1.set _ _).trans hch3.out.1) (by rw [HG.out]; exact Nat.le_refl _), _, hr3.out, fun i hi => HFI.out i (by omega)⟩

end Go.Proofs.YtjkmppdmejgjiaaGreatDoor

/- Walks: nat.bytes: the bytes of a number out of its words. -/
set_option linter.unusedVariables false
set_option linter.unusedSimpArgs false
namespace Go.Proofs.YtjkmppdmejgjiaaGreatDoor
open Go.RowKit
open Num

theorem byte_of (V k j : Nat) (hj : j < 8) : ((wd V k / 2 ^ (8 * j) : Nat) : Int) % 256 = (dg V (8 * k + j) : Int) := by
  rw [← dg_wd V k j hj]; omega
theorem shr_byte (V k j : Nat) : ((wd V k / 2 ^ (8 * j) : Nat) : Int) / 256 = ((wd V k / 2 ^ (8 * (j + 1)) : Nat) : Int) := by
  rw [show 8 * (j + 1) = 8 * j + 8 by omega, Nat.pow_add, ← Nat.div_div_eq_div_mul]
  omega

def BytesPost (g n V : Nat) (w : World) (e : Ending) (w' : World) : Prop :=
  ∃ r f', r ≤ 8 * n ∧ Nb (8 * n - r) V ∧ e = .returned (.int .i64 r) ∧ Row w' g 5 (8 * n) f' ∧ (∀ p, p < 8 * n → f' p = .int .u8 (dg V (8 * n - 1 - p))) ∧ Chg g w w' ∧ w'.heap.size = w.heap.size

end Go.Proofs.YtjkmppdmejgjiaaGreatDoor

/- Walks: the integers of the package (*Int). -/
set_option linter.unusedVariables false
set_option linter.unusedSimpArgs false
namespace Go.Proofs.YtjkmppdmejgjiaaGreatDoor
open Go.RowKit
open Num

theorem under_pInt : Tryz.prog.underlying 101 = some (.pointer 159) := by kernel_rfl
theorem info_Int : ∃ j, Tryz.prog.info? 159 = some j ∧ j.size ≠ 0 := by
  have h : (Tryz.prog.info? 159).map (·.size) = some 2 := by kernel_rfl
  obtain ⟨j, hj, hs⟩ := Option.map_eq_some_iff.1 h
  exact ⟨j, hj, by omega⟩

/-- the slice s holds V in n words, in a block that is new since w; or n is 0 and s is nil -/
def NatNew (w w' : World) (s : Value) (n V : Nat) : Prop :=
  (n = 0 ∧ V = 0 ∧ s = .slice none 0 0) ∨ (0 < n ∧ V < 2 ^ (64 * n) ∧ ∃ g c f, s = .slice (some ⟨g, 0, none⟩) n c ∧ w.heap.size ≤ g ∧ n ≤ c ∧ c ≤ 2147483651 ∧ Row w' g 195 c f ∧ ∀ i, i < n → f i = .int .u64 (wd V i))
/-- what a method of *Int leaves that sets its receiver at ⟨b, o⟩ -/
def IntSet (b o : Nat) (cz : Array Value) (tz : Nat) (neg : Bool) (n V : Nat) (w w' : World) : Prop :=
  ∃ s, NatNew w w' s n V ∧ Chg b w w' ∧ w'.heap[b]? = some (.cells ((cz.setIfInBounds (o + 1) s).setIfInBounds o (.bool neg)) tz (0, 0))

theorem NatNew.far {w w1 : World} {s : Value} {n V : Nat} (h : NatNew w w1 s n V) {p : Addr} (hp : p.block < w.heap.size) (v : Value) : NatNew w (w1.setCell p v) s n V := by
  rcases h with h | ⟨h0, hV, g, c, f, hs, hg, hc1, hc2, hr, hf⟩
  · exact .inl h
  · exact .inr ⟨h0, hV, g, c, f, hs, hg, hc1, hc2, hr.far (by omega) v, hf⟩
theorem NatNew.heap {w w1 w2 : World} {s : Value} {n V : Nat} (h : NatNew w w1 s n V) (hb : ∀ k, k < w1.heap.size → w.heap.size ≤ k → w2.heap[k]? = w1.heap[k]?) : NatNew w w2 s n V := by
  rcases h with h | ⟨h0, hV, g, c, f, hs, hg, hc1, hc2, hr, hf⟩
  · exact .inl h
  · exact .inr ⟨h0, hV, g, c, f, hs, hg, hc1, hc2, hr.keep (hb g hr.lt hg), hf⟩
theorem intSet_mk {b o tz n V : Nat} {cz : Array Value} {xn : Bool} {w w2 : World} {s : Value} (hb2 : Below w.heap.size w w2) (hz : w.heap[b]? = some (.cells cz tz (0, 0))) (hn : NatNew w w2 s n V) :
    IntSet b o cz tz xn n V w ((w2.setCell ⟨b, o + 1, none⟩ s).setCell ⟨b, o, none⟩ (.bool xn)) := by
  have hbl := (Array.getElem?_eq_some_iff.1 hz).1
  refine ⟨s, (hn.far hbl _).far hbl _, ((Chg.of_below hb2).set _ _).set _ _, ?_⟩
  have h2 : w2.heap[b]? = some (.cells cz tz (0, 0)) := (hb2.block b hbl).trans hz
  have e1 : (w2.setCell ⟨b, o + 1, none⟩ s).heap[b]? = some (.cells (cz.setIfInBounds (o + 1) s) tz (0, 0)) := by
    simp only [World.setCell, Array.getElem?_modify, if_true, h2, Option.map_some]; rfl
  simp only [World.setCell, Array.getElem?_modify, if_true] at e1 ⊢
  simp only [e1, Option.map_some]; rfl

theorem Int_Set_some (b o bx ox gx px cx n V : Nat) (cz ca : Array Value) (tz ta : Nat) (zn xn : Bool) (w : World) (hV : V < 2 ^ (64 * n)) (h0 : 0 < n) (hn : n ≤ 2147483647) (hgx : gx < w.heap.size)
    (hz : w.heap[b]? = some (.cells cz tz (0, 0))) (hx : w.heap[bx]? = some (.cells ca ta (0, 0)))
    (z0 : cz[o]? = some (.bool zn)) (z1 : cz[o + 1]? = some (.slice none 0 0))
    (x0 : ca[ox]? = some (.bool xn)) (x1 : ca[ox + 1]? = some (.slice (some ⟨gx, px, none⟩) n cx)) (hne : b ≠ bx)
    (hc : ∀ i, i < n → w.cell? ⟨gx, px + i, none⟩ = some (.int .u64 (wd V i))) :
    Calls Tryz.prog 86 #[.pointer (some ⟨b, o, none⟩), .pointer (some ⟨bx, ox, none⟩)] w fun e w' => e = .returned (.pointer (some ⟨b, o, none⟩)) ∧ IntSet b o cz tz xn n V w w' := by
  have HS := fun W hb h => Lib.hid (set_some gx px cx n V W h0 (by omega) hb h)
  obtain ⟨j, hj, hjs⟩ := info_Int
  have hp := run_neq_ptr_other (P := Tryz.prog) w (a := ⟨b, o, none⟩) (b := ⟨bx, ox, none⟩) under_pInt hj hjs (by intro e; injection e with e; exact hne e) hz hx
  have hz0 : w.cell? ⟨b, o, none⟩ = some (.bool zn) := (cell_of_row w b o cz tz (0, 0) hz).trans z0
  have hz1 : w.cell? ⟨b, o + 1, none⟩ = some (.slice none 0 0) := (cell_of_row w b (o + 1) cz tz (0, 0) hz).trans z1
  have hx0 : w.cell? ⟨bx, ox, none⟩ = some (.bool xn) := (cell_of_row w bx ox ca ta (0, 0) hx).trans x0
  have hx1 : w.cell? ⟨bx, ox + 1, none⟩ = some (.slice (some ⟨gx, px, none⟩) n cx) := (cell_of_row w bx (ox + 1) ca ta (0, 0) hx).trans x1
  have hf0 : w.frozen? ⟨b, o, none⟩ = false := by simp [World.frozen?, hz]
  have hf1 : w.frozen? ⟨b, o + 1, none⟩ = false := by simp [World.frozen?, hz]
  have hbl := (Array.getElem?_eq_some_iff.1 hz).1
  have hbxl := (Array.getElem?_eq_some_iff.1 hx).1
  have HZ := Lib.hid hz; clear hz
  have HX := Lib.hid hx; clear hx
  have HC := Lib.hid hc; clear hc
  have Z0 := Lib.hid z0; clear z0
  have Z1 := Lib.hid z1; clear z1
  clear x0 x1 hj hjs
  go_enter Tryz.func86, Tryz.ntmps86
  go_wp2_with fail
  go_region_law (first | (go_simp; go_at_call 111; refine ((HS w.drew hgx (fun i hi => HC.out i hi)).out).mono ?_; rintro e w2 ⟨g, c, hg, hc1, hc2, rfl, hb2, f, hr2, hf2⟩; have q1 : w2.cell? ⟨b, o + 1, none⟩ = some (.slice none 0 0) := (hb2.cell (p := ⟨b, o + 1, none⟩) hbl).trans hz1; have q2 : w2.frozen? ⟨b, o + 1, none⟩ = false := (hb2.frozen (p := ⟨b, o + 1, none⟩) hbl).trans hf1; have q3 : w2.cell? ⟨bx, ox, none⟩ = some (.bool xn) := (hb2.cell (p := ⟨bx, ox, none⟩) hbxl).trans hx0; have q4 : w2.cell? ⟨b, o, none⟩ = some (.bool zn) := (hb2.cell (p := ⟨b, o, none⟩) hbl).trans hz0; have q5 : w2.frozen? ⟨b, o, none⟩ = false := (hb2.frozen (p := ⟨b, o, none⟩) hbl).trans hf0; have hgb : g ≠ b := (by have h9 : g = w.heap.size := hg; omega); have q6 : w2.cell? ⟨bx, ox + 1, none⟩ = some (.slice (some ⟨gx, px, none⟩) n cx) := (hb2.cell (p := ⟨bx, ox + 1, none⟩) hbxl).trans hx1; have HG := Lib.hid hg; clear hg; have HF2 := Lib.hid hf2; clear hf2; have HR2 := Lib.hid hr2; clear hr2))
  all_goals go_wp2
  all_goals go_ret
  all_goals exact ⟨rfl, intSet_mk (w := w) (below_undrew hb2) HZ.out (.inr ⟨h0, hV, g, c, f, rfl, by have h9 : g = w.heap.size := HG.out; omega, hc1, by omega, HR2.out, HF2.out⟩)⟩

end Go.Proofs.YtjkmppdmejgjiaaGreatDoor

/- Walks: *Int's Int64, BitLen, SetBytes, Neg; starlark's isSmall, makeSmallInt, makeBigInt. -/
set_option linter.unusedVariables false
set_option linter.unusedSimpArgs false
namespace Go.Proofs.YtjkmppdmejgjiaaGreatDoor
open Go.RowKit
open Num

theorem Int64_some (b o g p c n V : Nat) (xn : Bool) (w : World) (h0 : 0 < n) (hn : n ≤ 2147483648)
    (x0 : w.cell? ⟨b, o, none⟩ = some (.bool xn)) (x1 : w.cell? ⟨b, o + 1, none⟩ = some (.slice (some ⟨g, p, none⟩) n c))
    (hc : ∀ i, i < n → w.cell? ⟨g, p + i, none⟩ = some (.int .u64 (wd V i))) (hs : wd V 0 ≤ 9223372036854775807) :
    Calls Tryz.prog 89 #[.pointer (some ⟨b, o, none⟩)] w fun e w' => e = .returned (.int .i64 (if xn then -(wd V 0 : Int) else (wd V 0 : Int))) ∧ w = w' := by
  have HL := Lib.hid (low64_some g p c n V w h0 hn hc)
  clear hc
  cases xn
  all_goals
    go_enter Tryz.func89, Tryz.ntmps89
    go_wp2_with fail
    refine HL.out.mono ?_
    rintro e w' ⟨rfl, rfl⟩
    go_wp2
    go_ret
    exact ⟨by simp, rfl⟩

theorem BitLen_some (b o g p c n V : Nat) (w : World) (h0 : 0 < n) (hn : n ≤ 2147483648) (hN : Nw n V)
    (x1 : w.cell? ⟨b, o + 1, none⟩ = some (.slice (some ⟨g, p, none⟩) n c))
    (hc : ∀ i, i < n → w.cell? ⟨g, p + i, none⟩ = some (.int .u64 (wd V i))) :
    Calls Tryz.prog 112 #[.pointer (some ⟨b, o, none⟩)] w fun e w' => (∃ L : Nat, 1 ≤ L ∧ L ≤ 64 * n ∧ 64 * (n - 1) < L ∧ 2 ^ (L - 1) ≤ V ∧ V < 2 ^ L ∧ e = .returned (.int .i64 L)) ∧ w = w' := by
  have HL := Lib.hid (bitLen_some g p c n V w h0 hn hN hc)
  clear hc hN
  go_enter Tryz.func112, Tryz.ntmps112
  go_wp2_with fail
  refine HL.out.mono ?_
  rintro e w' ⟨⟨L, h1, h2, h3, h4, h5, rfl⟩, rfl⟩
  have H4 := Lib.hid h4; clear h4
  have H5 := Lib.hid h5; clear h5
  go_wp2
  go_ret
  exact ⟨⟨L, h1, h2, h3, H4.out, H5.out, rfl⟩, rfl⟩
theorem bitLen_zero (a : Option Addr) (c : Nat) (w : World) :
    Calls Tryz.prog 131 #[.slice a 0 c] w fun e w' => e = .returned (.int .i64 0) ∧ w = w' := by
  go_enter Tryz.func131, Tryz.ntmps131
  go_wp2
  go_ret
  exact ⟨rfl, rfl⟩
theorem BitLen_zero (b o c : Nat) (a : Option Addr) (w : World) (x1 : w.cell? ⟨b, o + 1, none⟩ = some (.slice a 0 c)) :
    Calls Tryz.prog 112 #[.pointer (some ⟨b, o, none⟩)] w fun e w' => e = .returned (.int .i64 0) ∧ w = w' := by
  go_enter Tryz.func112, Tryz.ntmps112
  go_wp2_with fail
  refine (bitLen_zero _ _ _).mono ?_
  rintro e w' ⟨rfl, rfl⟩
  go_wp2
  go_ret
  exact ⟨rfl, rfl⟩
theorem Int64_zero (b o c : Nat) (a : Option Addr) (xn : Bool) (w : World)
    (x0 : w.cell? ⟨b, o, none⟩ = some (.bool xn)) (x1 : w.cell? ⟨b, o + 1, none⟩ = some (.slice a 0 c)) :
    Calls Tryz.prog 89 #[.pointer (some ⟨b, o, none⟩)] w fun e w' => e = .returned (.int .i64 0) ∧ w = w' := by
  cases xn
  all_goals
    go_enter Tryz.func89, Tryz.ntmps89
    go_wp2_with fail
    refine (low64_zero _ _ _).mono ?_
    rintro e w' ⟨rfl, rfl⟩
    go_wp2
    go_ret
    exact ⟨rfl, rfl⟩

/-- whether an integer has room in 32 bits -/
def sm (neg : Bool) (V : Nat) : Bool := decide (V < 2147483648) || (neg && decide (V = 2147483648))

theorem isSmall_zero (b o c : Nat) (a : Option Addr) (w : World) (x1 : w.cell? ⟨b, o + 1, none⟩ = some (.slice a 0 c)) :
    Calls Tryz.prog 87 #[.pointer (some ⟨b, o, none⟩)] w fun e w' => e = .returned (.bool true) ∧ w = w' := by
  have H := Lib.hid (BitLen_zero b o c a w x1)
  clear x1
  go_enter Tryz.func87, Tryz.ntmps87
  go_wp2_with fail
  refine H.out.mono ?_
  rintro e w' ⟨rfl, rfl⟩
  go_wp2
  go_ret
  exact ⟨rfl, rfl⟩
theorem isSmall_some (b o g p c n V : Nat) (xn : Bool) (w : World) (h0 : 0 < n) (hn : n ≤ 2147483648) (hN : Nw n V)
    (x0 : w.cell? ⟨b, o, none⟩ = some (.bool xn)) (x1 : w.cell? ⟨b, o + 1, none⟩ = some (.slice (some ⟨g, p, none⟩) n c))
    (hc : ∀ i, i < n → w.cell? ⟨g, p + i, none⟩ = some (.int .u64 (wd V i))) :
    Calls Tryz.prog 87 #[.pointer (some ⟨b, o, none⟩)] w fun e w' => e = .returned (.bool (sm xn V)) ∧ w = w' := by
  have HB := Lib.hid (BitLen_some b o g p c n V w h0 hn hN x1 hc)
  have HI := fun hs => Lib.hid (Int64_some b o g p c n V xn w h0 hn x0 x1 hc hs)
  clear hc x0 x1
  go_enter Tryz.func87, Tryz.ntmps87
  go_wp2_with fail
  refine HB.out.mono ?_
  rintro e w' ⟨⟨L, h1, h2, h3, h4, h5, rfl⟩, rfl⟩
  by_cases hL : L < 32
  · have hV : V < 2147483648 := Nat.lt_of_lt_of_le h5 (Nat.pow_le_pow_right (n := 2) (by omega) (show L ≤ 31 by omega))
    have hs : sm xn V = true := by simp [sm, hV]
    have HS := Lib.hid hs
    clear hs h4 h5 hV hN
    go_wp2
    go_ret
    exact ⟨by rw [HS.out]; rfl, rfl⟩
  · by_cases hL2 : L = 32
    · subst hL2
      have hn1 : n = 1 := by omega
      have hwd : wd V 0 = V := by unfold wd; simp; omega
      have hge : 2147483648 ≤ V := h4
      have hV32 : V < 4294967296 := h5
      have HI' := Lib.hid ((HI (by rw [hwd]; omega)).out)
      rw [hwd] at HI'
      clear HI hN h4 h5
      cases xn
      · have hs : ((V : Int) == -2147483648) = sm false V := by rw [Bool.eq_iff_iff]; simp [sm]; omega
        have HS := Lib.hid hs
        clear hs hwd
        go_wp2_with fail
        refine HI'.out.mono ?_
        rintro e w' ⟨rfl, rfl⟩
        go_wp2
        go_ret
        exact ⟨ret_bool HS.out, rfl⟩
      · have hs : (-(V : Int) == -2147483648) = sm true V := by rw [Bool.eq_iff_iff]; simp [sm]; omega
        have HS := Lib.hid hs
        clear hs hwd
        go_wp2_with fail
        refine HI'.out.mono ?_
        rintro e w' ⟨rfl, rfl⟩
        go_wp2
        go_ret
        exact ⟨ret_bool HS.out, rfl⟩
    · have hV : 4294967296 ≤ V := Nat.le_trans (Nat.pow_le_pow_right (n := 2) (by omega) (show 32 ≤ L - 1 by omega)) h4
      have hs : sm xn V = false := by simp [sm]; omega
      have HS := Lib.hid hs
      have e32 : ((L : Int) == 32) = false := by simp; omega
      have hL3 : decide ((L : Int) < 32) = false := by simp; omega
      clear hs h4 h5 hV hN
      go_wp2
      go_ret
      exact ⟨ret_bool (by rw [HS.out]), rfl⟩


/-! SetBytes, Neg, makeSmallInt, makeBigInt -/
theorem Int_SetBytes_some (b o gx px cx n V : Nat) (cz : Array Value) (tz : Nat) (zn : Bool) (w : World) (hV : V < 2 ^ (8 * n)) (h0 : 0 < n) (hn : n ≤ 16777216) (hnc : n ≤ cx) (hgx : gx < w.heap.size)
    (hz : w.heap[b]? = some (.cells cz tz (0, 0))) (z0 : cz[o]? = some (.bool zn)) (z1 : cz[o + 1]? = some (.slice none 0 0)) (hpos : 0 < V)
    (hc : ∀ i, i < n → w.cell? ⟨gx, px + i, none⟩ = some (.int .u8 (dg V (n - 1 - i)))) :
    Calls Tryz.prog 67 #[.pointer (some ⟨b, o, none⟩), .slice (some ⟨gx, px, none⟩) n cx] w fun e w' => e = .returned (.pointer (some ⟨b, o, none⟩)) ∧ ∃ m, Nw m V ∧ m ≤ 16777216 ∧ IntSet b o cz tz false m V w w' := by
  have HS := Lib.hid (setBytes_some gx px cx n V w hV h0 (by omega) hnc hgx hc)
  have hz0 : w.cell? ⟨b, o, none⟩ = some (.bool zn) := (cell_of_row w b o cz tz (0, 0) hz).trans z0
  have hz1 : w.cell? ⟨b, o + 1, none⟩ = some (.slice none 0 0) := (cell_of_row w b (o + 1) cz tz (0, 0) hz).trans z1
  have hf0 : w.frozen? ⟨b, o, none⟩ = false := by simp [World.frozen?, hz]
  have hf1 : w.frozen? ⟨b, o + 1, none⟩ = false := by simp [World.frozen?, hz]
  have hbl := (Array.getElem?_eq_some_iff.1 hz).1
  have HZ := Lib.hid hz; clear hz z0 z1 hc
  go_enter Tryz.func67, Tryz.ntmps67
  go_wp2_with fail
  refine HS.out.mono ?_
  rintro e w2 ⟨m, g, c, hg, hN, hmc, hc2, rfl, hb2, f, hr2, hf2⟩
  have q1 : w2.cell? ⟨b, o + 1, none⟩ = some (.slice none 0 0) := (hb2.cell (p := ⟨b, o + 1, none⟩) hbl).trans hz1
  have q2 : w2.frozen? ⟨b, o + 1, none⟩ = false := (hb2.frozen (p := ⟨b, o + 1, none⟩) hbl).trans hf1
  have q4 : w2.cell? ⟨b, o, none⟩ = some (.bool zn) := (hb2.cell (p := ⟨b, o, none⟩) hbl).trans hz0
  have q5 : w2.frozen? ⟨b, o, none⟩ = false := (hb2.frozen (p := ⟨b, o, none⟩) hbl).trans hf0
  have HG := Lib.hid hg; clear hg
  have HF2 := Lib.hid hf2; clear hf2
  have HR2 := Lib.hid hr2; clear hr2
  have HN := Lib.hid hN; clear hN
  have hm0 : 0 < m := by
    rcases Nat.eq_zero_or_pos m with h | h
    · have := HN.out.zero_iff.1 h; omega
    · exact h
  have hmb : m ≤ 16777216 := by
    rcases Nat.lt_or_ge 16777216 m with h | h
    · have h1 := HN.out.2 hm0
      have := Nat.pow_le_pow_right (n := 2) (by omega) (show 8 * n ≤ 64 * (m - 1) by omega)
      omega
    · exact h
  go_wp2
  go_ret
  exact ⟨rfl, m, HN.out, hmb, intSet_mk (w := w) hb2 HZ.out (.inr ⟨hm0, HN.out.1, g, c, f, rfl, by have h9 : g = w.heap.size := HG.out; omega, hmc, by omega, HR2.out, HF2.out⟩)⟩
theorem setBytes_zero (a : Option Addr) (c : Nat) (w : World) :
    Calls Tryz.prog 85 #[.slice none 0 0, .slice a 0 c] w fun e w' => e = .returned (.slice none 0 0) ∧ w = w' := by
  go_enter Tryz.func85, Tryz.ntmps85
  go_wp2_with fail
  refine (make_le _ _ _ 0 _ (by omega)).mono ?_
  rintro e w' ⟨rfl, rfl⟩
  go_wp2_with fail
  refine wp_loop_rounds 1 ?_
  rw [rounds_succ]
  go_wp2_with fail
  refine (norm_zero _ _ _).mono ?_
  rintro e w' ⟨rfl, rfl⟩
  go_wp2
  go_ret
  exact ⟨rfl, rfl⟩
theorem Int_SetBytes_zero (b o cx : Nat) (a : Option Addr) (cz : Array Value) (tz : Nat) (zn : Bool) (w : World)
    (hz : w.heap[b]? = some (.cells cz tz (0, 0))) (z0 : cz[o]? = some (.bool zn)) (z1 : cz[o + 1]? = some (.slice none 0 0)) :
    Calls Tryz.prog 67 #[.pointer (some ⟨b, o, none⟩), .slice a 0 cx] w fun e w' => e = .returned (.pointer (some ⟨b, o, none⟩)) ∧ IntSet b o cz tz false 0 0 w w' := by
  have hz0 : w.cell? ⟨b, o, none⟩ = some (.bool zn) := (cell_of_row w b o cz tz (0, 0) hz).trans z0
  have hz1 : w.cell? ⟨b, o + 1, none⟩ = some (.slice none 0 0) := (cell_of_row w b (o + 1) cz tz (0, 0) hz).trans z1
  have hf0 : w.frozen? ⟨b, o, none⟩ = false := by simp [World.frozen?, hz]
  have hf1 : w.frozen? ⟨b, o + 1, none⟩ = false := by simp [World.frozen?, hz]
  have HZ := Lib.hid hz; clear hz z0 z1
  go_enter Tryz.func67, Tryz.ntmps67
  go_wp2_with fail
  refine (setBytes_zero _ _ _).mono ?_
  rintro e w2 ⟨rfl, rfl⟩
  go_wp2
  go_ret
  exact ⟨rfl, intSet_mk (w := w) (Below.refl _ _) HZ.out (.inl ⟨rfl, rfl, rfl⟩)⟩

/-- Neg of an integer in its own place: the sign turns, unless it is 0 -/
theorem Int_Neg_own (b o n c : Nat) (a : Option Addr) (cz : Array Value) (tz : Nat) (zn : Bool) (w : World)
    (hz : w.heap[b]? = some (.cells cz tz (0, 0))) (z0 : cz[o]? = some (.bool zn)) (z1 : cz[o + 1]? = some (.slice a n c)) :
    Calls Tryz.prog 68 #[.pointer (some ⟨b, o, none⟩), .pointer (some ⟨b, o, none⟩)] w fun e w' => e = .returned (.pointer (some ⟨b, o, none⟩)) ∧ w' = w.setCell ⟨b, o, none⟩ (.bool (decide (0 < n) && !zn)) := by
  have hz0 : w.cell? ⟨b, o, none⟩ = some (.bool zn) := (cell_of_row w b o cz tz (0, 0) hz).trans z0
  have hz1 : w.cell? ⟨b, o + 1, none⟩ = some (.slice a n c) := (cell_of_row w b (o + 1) cz tz (0, 0) hz).trans z1
  have hf0 : w.frozen? ⟨b, o, none⟩ = false := by simp [World.frozen?, hz]
  obtain ⟨j, hj, hjs⟩ := info_Int
  have hp := run_neq_ptr_same (P := Tryz.prog) w (⟨b, o, none⟩ : Addr) under_pInt hj
  clear hz z0 z1 hj hjs
  have HSet : Calls Tryz.prog 86 #[.pointer (some ⟨b, o, none⟩), .pointer (some ⟨b, o, none⟩)] w fun e w' => e = .returned (.pointer (some ⟨b, o, none⟩)) ∧ w = w' := by
    go_enter Tryz.func86, Tryz.ntmps86
    go_wp2
    go_ret
    exact ⟨rfl, rfl⟩
  have HS := Lib.hid HSet; clear HSet
  by_cases hn : 0 < n
  · go_enter Tryz.func68, Tryz.ntmps68
    go_wp2_with fail
    refine HS.out.mono ?_
    rintro e w2 ⟨rfl, rfl⟩
    go_wp2
    go_ret
    exact ⟨rfl, by simp [hn]⟩
  · obtain rfl : n = 0 := by omega
    go_enter Tryz.func68, Tryz.ntmps68
    go_wp2_with fail
    refine HS.out.mono ?_
    rintro e w2 ⟨rfl, rfl⟩
    go_wp2
    go_ret
    exact ⟨rfl, by simp⟩

theorem makeSmallInt_any (z : Int) (w : World) :
    Calls Tryz.prog 88 #[.int .i64 z] w fun e w' => e = .returned (.agg #[.int .i64 z, .pointer none]) ∧ w' = w.alloc (.cells #[.int .i64 z, .pointer none] 105) := by
  go_enter Tryz.func88, Tryz.ntmps88
  go_wp2
  exact bodyPost_ret (v := .agg #[.int .i64 z, .pointer none]) (by simp [results, Tryz.results88, go_sem]) rfl ⟨rfl, rfl⟩
theorem makeBigInt_any (p : Addr) (w : World) :
    Calls Tryz.prog 90 #[.pointer (some p)] w fun e w' => e = .returned (.agg #[.int .i64 0, .pointer (some p)]) ∧ w' = w.alloc (.cells #[.int .i64 0, .pointer (some p)] 105) := by
  go_enter Tryz.func90, Tryz.ntmps90
  go_wp2
  exact bodyPost_ret (v := .agg #[.int .i64 0, .pointer (some p)]) (by simp [results, Tryz.results90, go_sem]) rfl ⟨rfl, rfl⟩

/-- v is a starlark integer: the number V with the sign neg; what it points to lies from block 'base' on -/
def IntIs (w : World) (base : Nat) (v : Value) (neg : Bool) (V : Nat) : Prop :=
  (sm neg V = true ∧ v = .agg #[.int .i64 (if neg then -(V : Int) else (V : Int)), .pointer none]) ∨
  (sm neg V = false ∧ ∃ b s n g c f, v = .agg #[.int .i64 0, .pointer (some ⟨b, 0, none⟩)] ∧ base ≤ b ∧ w.heap[b]? = some (.cells #[.bool neg, s] 159 (0, 0)) ∧ 0 < n ∧ Nw n V ∧ n ≤ 16777216 ∧
    s = .slice (some ⟨g, 0, none⟩) n c ∧ base ≤ g ∧ n ≤ c ∧ c ≤ 2147483651 ∧ Row w g 195 c f ∧ ∀ i, i < n → f i = .int .u64 (wd V i))
theorem IntIs.below {w w' : World} {base : Nat} {v : Value} {neg : Bool} {V : Nat} (h : IntIs w base v neg V) (hb : Below w.heap.size w w') : IntIs w' base v neg V := by
  rcases h with h | ⟨h1, b, s, n, g, c, f, hv, hbb, hh, h0, hN, hn, hs, hg, hnc, hc, hr, hf⟩
  · exact .inl h
  · exact .inr ⟨h1, b, s, n, g, c, f, hv, hbb, (hb.block b (Array.getElem?_eq_some_iff.1 hh).1).trans hh, h0, hN, hn, hs, hg, hnc, hc, hr.below hb hr.lt, hf⟩

theorem MakeBigInt_zero (b o c : Nat) (a : Option Addr) (xn : Bool) (w : World)
    (x0 : w.cell? ⟨b, o, none⟩ = some (.bool xn)) (x1 : w.cell? ⟨b, o + 1, none⟩ = some (.slice a 0 c)) :
    Calls Tryz.prog 69 #[.pointer (some ⟨b, o, none⟩)] w fun e w' => e = .returned (.agg #[.int .i64 0, .pointer none]) ∧ Below w.heap.size w w' := by
  have hbl : b < w.heap.size := World.block_lt_of_cell? w _ x0
  have HA := Lib.hid (fun O => isSmall_zero b o c a (w.alloc O) ((World.cell?_of_block (w := w) (Below.heap_alloc w O b hbl)).trans x1))
  have HI := Lib.hid (fun O => Int64_zero b o c a xn (w.alloc O) ((World.cell?_of_block (w := w) (Below.heap_alloc w O b hbl)).trans x0) ((World.cell?_of_block (w := w) (Below.heap_alloc w O b hbl)).trans x1))
  clear x0 x1
  go_enter Tryz.func69, Tryz.ntmps69
  go_wp2_with fail
  refine (HA.out _).mono ?_
  rintro e w2 ⟨rfl, rfl⟩
  go_wp2_with fail
  refine (HI.out _).mono ?_
  rintro e w2 ⟨rfl, rfl⟩
  go_wp2_with fail
  refine (makeSmallInt_any _ _).mono ?_
  rintro e w2 ⟨rfl, rfl⟩
  go_wp2
  exact bodyPost_ret (v := .agg #[.int .i64 0, .pointer none]) (by simp [results, Tryz.results69, go_sem]) rfl ⟨rfl, ((Below.refl _ _).alloc (Nat.le_refl _) _).alloc (by simp) _⟩

theorem MakeBigInt_small (b o g p c n V : Nat) (xn : Bool) (w : World) (h0 : 0 < n) (hn : n ≤ 2147483648) (hN : Nw n V) (hs : sm xn V = true)
    (x0 : w.cell? ⟨b, o, none⟩ = some (.bool xn)) (x1 : w.cell? ⟨b, o + 1, none⟩ = some (.slice (some ⟨g, p, none⟩) n c)) (hg : g < w.heap.size)
    (hc : ∀ i, i < n → w.cell? ⟨g, p + i, none⟩ = some (.int .u64 (wd V i))) :
    Calls Tryz.prog 69 #[.pointer (some ⟨b, o, none⟩)] w fun e w' => e = .returned (.agg #[.int .i64 (if xn then -(V : Int) else (V : Int)), .pointer none]) ∧ Below w.heap.size w w' := by
  have hbl : b < w.heap.size := World.block_lt_of_cell? w _ x0
  have hV32 : V < 4294967296 := by cases xn <;> simp [sm] at hs <;> omega
  have hwd : wd V 0 = V := by unfold wd; simp; omega
  have HA := Lib.hid (fun O => isSmall_some b o g p c n V xn (w.alloc O) h0 hn hN ((World.cell?_of_block (w := w) (Below.heap_alloc w O b hbl)).trans x0) ((World.cell?_of_block (w := w) (Below.heap_alloc w O b hbl)).trans x1) (fun i hi => (World.cell?_of_block (w := w) (Below.heap_alloc w O g hg)).trans (hc i hi)))
  have HI := fun O => Int64_some b o g p c n V xn (w.alloc O) h0 hn ((World.cell?_of_block (w := w) (Below.heap_alloc w O b hbl)).trans x0) ((World.cell?_of_block (w := w) (Below.heap_alloc w O b hbl)).trans x1) (fun i hi => (World.cell?_of_block (w := w) (Below.heap_alloc w O g hg)).trans (hc i hi)) (by rw [hwd]; omega)
  rw [hwd] at HI
  have HII := Lib.hid HI; clear HI
  rw [hs] at HA
  obtain ⟨z, hz⟩ : ∃ z : Int, z = (if xn then -(V : Int) else (V : Int)) := ⟨_, rfl⟩
  rw [← hz] at HII ⊢
  clear x0 x1 hc hs hwd hz hN
  go_enter Tryz.func69, Tryz.ntmps69
  go_wp2_with fail
  refine (HA.out _).mono ?_
  rintro e w2 ⟨rfl, rfl⟩
  go_wp2_with fail
  refine (HII.out _).mono ?_
  rintro e w2 ⟨rfl, rfl⟩
  go_wp2_with fail
  refine (makeSmallInt_any _ _).mono ?_
  rintro e w2 ⟨rfl, rfl⟩
  go_wp2
  exact bodyPost_ret (v := .agg #[.int .i64 z, .pointer none]) (by simp [results, Tryz.results69, go_sem]) rfl ⟨rfl, ((Below.refl _ _).alloc (Nat.le_refl _) _).alloc (by simp) _⟩

theorem set2 {w3 : World} {B T : Nat} {a b x y : Value} (h : w3.heap[B]? = some (.cells #[a, b] T (0, 0))) : ((w3.setCell ⟨B, 0, none⟩ x).setCell ⟨B, 1, none⟩ y).heap[B]? = some (.cells #[x, y] T (0, 0)) := by
  have e1 : (w3.setCell ⟨B, 0, none⟩ x).heap[B]? = some (.cells #[x, b] T (0, 0)) := by
    simp only [World.setCell, Array.getElem?_modify, if_true, h, Option.map_some]; rfl
  simp only [World.setCell, Array.getElem?_modify, if_true] at e1 ⊢
  simp only [e1, Option.map_some]; rfl

theorem MakeBigInt_big (b o g p c n V : Nat) (ca : Array Value) (ta : Nat) (xn : Bool) (w : World) (h0 : 0 < n) (hn : n ≤ 16777216) (hN : Nw n V) (hs : sm xn V = false)
    (hx : w.heap[b]? = some (.cells ca ta (0, 0))) (x0 : ca[o]? = some (.bool xn)) (x1 : ca[o + 1]? = some (.slice (some ⟨g, p, none⟩) n c)) (hg : g < w.heap.size)
    (hc : ∀ i, i < n → w.cell? ⟨g, p + i, none⟩ = some (.int .u64 (wd V i))) :
    Calls Tryz.prog 69 #[.pointer (some ⟨b, o, none⟩)] w fun e w' => ∃ v, e = .returned v ∧ IntIs w' w.heap.size v xn V ∧ Below w.heap.size w w' := by
  have hbl := (Array.getElem?_eq_some_iff.1 hx).1
  have hx0 : w.cell? ⟨b, o, none⟩ = some (.bool xn) := (cell_of_row w b o ca ta (0, 0) hx).trans x0
  have hx1 : w.cell? ⟨b, o + 1, none⟩ = some (.slice (some ⟨g, p, none⟩) n c) := (cell_of_row w b (o + 1) ca ta (0, 0) hx).trans x1
  have HA := fun O => isSmall_some b o g p c n V xn (w.alloc O) h0 (by omega) hN ((World.cell?_of_block (w := w) (Below.heap_alloc w O b hbl)).trans hx0) ((World.cell?_of_block (w := w) (Below.heap_alloc w O b hbl)).trans hx1) (fun i hi => (World.cell?_of_block (w := w) (Below.heap_alloc w O g hg)).trans (hc i hi))
  rw [hs] at HA
  have HAA := Lib.hid HA; clear HA
  have HSET := Lib.hid (fun (O : Obj) => Int_Set_some (w.heap.size + 1) 0 b o g p c n V #[.bool false, .slice none 0 0] ca 159 ta false xn ((w.alloc O).alloc (.cells #[.bool false, .slice none 0 0] 159)) hN.1 h0 (by omega) (by simp; omega)
    (by have := heap_alloc_new (w.alloc O) (.cells #[.bool false, .slice none 0 0] 159); simpa using this)
    ((Below.heap_alloc _ _ _ (by simp; omega)).trans ((Below.heap_alloc _ _ _ hbl).trans hx)) rfl rfl x0 x1 (by omega)
    (fun i hi => (World.cell?_of_block (w := w.alloc O) (Below.heap_alloc _ _ g (by simp; omega))).trans ((World.cell?_of_block (w := w) (Below.heap_alloc w O g hg)).trans (hc i hi))))
  have HS := Lib.hid hs
  have HN := Lib.hid hN
  clear hx x0 x1 hc hs hx0 hx1 hN
  go_enter Tryz.func69, Tryz.ntmps69
  go_wp2_with fail
  refine (HAA.out _).mono ?_
  rintro e w2 ⟨rfl, rfl⟩
  go_wp2_with fail
  refine (HSET.out _).mono ?_
  rintro e w3 ⟨rfl, s, hnew, hch, hh⟩
  have hb2 : Below w.heap.size w ((w.alloc (Obj.cells #[Value.int IntKind.i64 0, Value.pointer none] 105)).alloc (Obj.cells #[Value.bool false, Value.slice none 0 0] 159)) := ((Below.refl _ _).alloc (Nat.le_refl _) _).alloc (by simp) _
  have hb3 : Below w.heap.size w w3 := Chg.below hb2 (by simp; omega) hch (by omega)
  have hr3 : w3.heap[w.heap.size]? = some (.cells #[.int .i64 0, .pointer none] 105 (0, 0)) := (hch.block _ (by simp; omega) (by omega)).trans ((Below.heap_alloc _ _ _ (by simp)).trans (heap_alloc_new w _))
  have hsz3 : w.heap.size + 2 ≤ w3.heap.size := by have := hch.size; simpa using this
  have c20 : w3.cell? ⟨w.heap.size, 0, none⟩ = some (.int .i64 0) := (cell_of_row w3 _ 0 _ _ (0, 0) hr3).trans rfl
  have c21 : w3.cell? ⟨w.heap.size, 1, none⟩ = some (.pointer none) := (cell_of_row w3 _ 1 _ _ (0, 0) hr3).trans rfl
  have f20 : w3.frozen? ⟨w.heap.size, 0, none⟩ = false := by simp [World.frozen?, hr3]
  have f21 : w3.frozen? ⟨w.heap.size, 1, none⟩ = false := by simp [World.frozen?, hr3]
  have hlt3 : w.heap.size < w3.heap.size := by omega
  have d20 : ∀ O, (w3.alloc O).cell? ⟨w.heap.size, 0, none⟩ = some (.int .i64 0) := fun O => (World.cell?_of_block (w := w3) (Below.heap_alloc w3 O _ hlt3)).trans c20
  have d21 : ∀ O, (w3.alloc O).cell? ⟨w.heap.size, 1, none⟩ = some (.pointer none) := fun O => (World.cell?_of_block (w := w3) (Below.heap_alloc w3 O _ hlt3)).trans c21
  have g20 : ∀ O, (w3.alloc O).frozen? ⟨w.heap.size, 0, none⟩ = false := fun O => (World.frozen?_of_block (w := w3) (Below.heap_alloc w3 O _ hlt3)).trans f20
  have g21 : ∀ O, (w3.alloc O).frozen? ⟨w.heap.size, 1, none⟩ = false := fun O => (World.frozen?_of_block (w := w3) (Below.heap_alloc w3 O _ hlt3)).trans f21
  have HNEW := Lib.hid hnew; clear hnew
  have HCH := Lib.hid hch; clear hch
  have HH := Lib.hid hh; clear hh
  have HR3 := Lib.hid hr3; clear hr3
  clear hb2
  go_wp2_with fail
  refine (makeBigInt_any _ _).mono ?_
  rintro e w4 ⟨rfl, rfl⟩
  go_wp2
  have hW2 := set2 (x := .int .i64 0) (y := .pointer (some ⟨w.heap.size + 1, 0, none⟩)) HR3.out
  have hWl : w.heap.size < ((w3.setCell ⟨w.heap.size, 0, none⟩ (.int .i64 0)).setCell ⟨w.heap.size, 1, none⟩ (.pointer (some ⟨w.heap.size + 1, 0, none⟩))).heap.size := by simp [World.setCell]; omega
  have hW := (Below.heap_alloc _ (Obj.cells #[Value.int IntKind.i64 0, Value.pointer (some ⟨w.heap.size + 1, 0, none⟩)] 105) _ hWl).trans hW2
  have e0 := (cell_of_row _ _ 0 _ _ (0, 0) hW).trans rfl
  have e1 := (cell_of_row _ _ 1 _ _ (0, 0) hW).trans rfl
  refine bodyPost_ret (v := .agg #[.int .i64 0, .pointer (some ⟨w.heap.size + 1, 0, none⟩)]) (by simp [results, Tryz.results69, go_sem, e0, e1]) rfl ⟨_, rfl, ?_, ?_⟩
  · refine .inr ⟨HS.out, w.heap.size + 1, s, n, ?_⟩
    rcases HNEW.out with ⟨hn0, _⟩ | ⟨_, hV, g', c', f', hs', hg', hnc', hc', hr', hf'⟩
    · omega
    · have hg2 : w.heap.size + 2 ≤ g' := by simpa using hg'
      refine ⟨g', c', f', rfl, by omega, ?_, h0, HN.out, hn, hs', by omega, hnc', hc', ((hr'.far (by simp; omega) _).far (by simp; omega) _).alloc _, hf'⟩
      rw [Below.heap_alloc _ _ _ (by simp [World.setCell]; omega), Below.heap_setCell _ _ _ _ (by simp), Below.heap_setCell _ _ _ _ (by simp)]
      rw [HH.out]; rfl
  · exact ((hb3.setCell (by simp) _).setCell (by simp) _).alloc (by simp [World.setCell]; omega) _

end Go.Proofs.YtjkmppdmejgjiaaGreatDoor
