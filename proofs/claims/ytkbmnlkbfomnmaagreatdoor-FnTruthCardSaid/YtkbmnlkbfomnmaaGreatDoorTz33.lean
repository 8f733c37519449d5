import Derived.Test.YtkbmnlkbfomnmaaGreatDoorTz32
import Derived.Test.YtkbmnlkbfomnmaaGreatDoorTz24
import Derived.ChangeSame
import Derived.ChangeSlices
import Derived.WideShapes
import Derived.KernelRfl
import Derived.OpenShut
import Derived.Deep.Fields23
/- Walks: Clean of dicts and sets; of any value. -/
set_option linter.unusedVariables false
set_option linter.unusedSimpArgs false
namespace Go.Proofs.YtkbmnlkbfomnmaaGreatDoor
open Go.RowKit
open Num

set_option maxRecDepth 100000 in
set_option maxHeartbeats 4000000 in
theorem Clean_dic (k n a m c b s a2 m2 c2) (deep f : Nat) (hd : deep ≤ 100) (hk : -9223372036854775808 ≤ k ∧ k ≤ 9223372036854775807) (hq : k % 10 = 8) (hm2 : m2 ≤ 9223372036854775807) (w : World)
    (hkids : m2 = 0 ∨ ∃ g p, a2 = some ⟨g, p, none⟩ ∧ g < w.heap.size ∧ ∀ i, i < m2 → ∃ u, V6 w g (p + i * 6) u ∧ RawAt w f u)
    (hE : ∀ u W, RawAt W f u → Below w.heap.size w W → Calls Tryz.prog 6 #[u, .int .i64 deep] W (CleanIs deep W)) :
    Calls Tryz.prog 6 #[sixV k n a m c b s a2 m2 c2, .int .i64 ((deep : Int) + 1)] w fun e w' => ∃ ks ts, e = .returned (valSix 8 0 ⟨#[]⟩ ks) ∧ ts.length ≤ 16 ∧ DictOk (deep + 1) ts ∧ KidsB w' (fun b => w.heap.size ≤ b) (ValB w' (fun b => w.heap.size ≤ b) (deep + 1)) ks ts ∧ Below w.heap.size w w' := by
  obtain ⟨hm, hq0, hq9⟩ := kind_mod k hk
  rw [hq] at hm hq0 hq9
  obtain ⟨w1, hw1⟩ : ∃ w1, w1 = (w.alloc (sixO k n a m c b s a2 m2 c2)).alloc (sixO 0 false none 0 0 0 ⟨#[]⟩ none 0 0) := ⟨_, rfl⟩
  obtain ⟨r0, r1, hb1, _⟩ := two_new w (sixO k n a m c b s a2 m2 c2) (sixO 0 false none 0 0 0 ⟨#[]⟩ none 0 0)
  rw [← hw1] at r0 r1 hb1
  have HW1 := Lib.hid hw1; have HB1 := Lib.hid hb1; have HR0 := Lib.hid r0; have HR1 := Lib.hid r1
  have HC := Lib.hid (cleanDict_any k n a m c b s a2 m2 c2 deep f hd hm2 w1 (by
    rcases hkids with h | ⟨g, p, e, hg, h⟩
    · exact .inl h
    · exact .inr ⟨g, p, e, Nat.lt_of_lt_of_le hg hb1.size, fun i hi => by
        obtain ⟨u, hu, hr⟩ := h i hi
        exact ⟨u, hu.below hg hb1, hr.below hb1⟩⟩) (fun u W hr hb => hE u W hr (hb1.trans (hb.mono hb1.size))))
  obtain ⟨x0, x1, x2, x3, x4, x5⟩ := box6 r0 (Below.refl _ _)
  obtain ⟨z0, z1, z2, z3, z4, z5⟩ := box6 r1 (Below.refl _ _)
  have hdd : ¬ ((deep : Int) + 1 ≤ 0) := by omega
  have hw1s : w.heap.size + 2 ≤ w1.heap.size := by rw [hw1]; simp
  clear hw1 r0 r1 hb1 hk hq hkids hE
  go_enter Tryz.func6, Tryz.ntmps6
  go_upto_if 18 with fail
  rw [← HW1.out]
  go_wp2_with fail
  refine HC.out.mono ?_
  rintro e w2 ⟨ks, rfl, ts, htl, hto, hks, hb2⟩
  have HB2 := Lib.hid (HB1.out.trans (hb2.mono HB1.out.size))
  have HR2 := Lib.hid ((hb2.block _ (Array.getElem?_eq_some_iff.1 HR1.out).1).trans HR1.out)
  obtain ⟨ka, kn, kc, rfl⟩ : ∃ a n c, ks = .slice a n c := by
    rcases hks.shape with ⟨_, a, c, h⟩ | ⟨_, g, p, c, h⟩
    · exact ⟨_, _, _, h⟩
    · exact ⟨_, _, _, h⟩
  have HKS := Lib.hid hks; have HTO := Lib.hid (And.intro htl hto)
  obtain ⟨y0, y1, y2, y3, y4, y5⟩ := box6 HR2.out (Below.refl _ _)
  have fy : ∀ i, w2.frozen? ⟨w.heap.size + 1, i, none⟩ = false := six_frozen HR2.out
  clear hks htl hto hb2
  go_wp2
  obtain ⟨e0, e1, e2, e3, e4, e5⟩ := box6 (put6_heap HR2.out) (Below.refl _ (put6 w2 (w.heap.size + 1) (.int .i64 8) (.bool false) (.slice none 0 0) (.int .u64 0) (.string ⟨#[]⟩) (.slice ka kn kc)))
  have hch := put6_chg w2 (w.heap.size + 1) (.int .i64 8) (.bool false) (.slice none 0 0) (.int .u64 0) (.string ⟨#[]⟩) (.slice ka kn kc)
  have hks := HKS.out.turn (S' := fun b => w.heap.size ≤ b) (Q := ValB _ (fun b => w.heap.size ≤ b) (deep + 1)) (fun b h => by have := HB1.out.size; omega) hch.size (fun b h hh => hch.block b hh (by omega)) (fun u t h => h.turn (S' := fun b => w.heap.size ≤ b) (fun b h => by have := HB1.out.size; omega) hch.size (fun b h hh => hch.block b hh (by omega)))
  unfold put6 at e0 e1 e2 e3 e4 e5
  exact bodyPost_ret (v := sixV 8 false none 0 0 0 ⟨#[]⟩ ka kn kc) (by simp [results, Tryz.results6, go_sem, e0, e1, e2, e3, e4, e5]) rfl ⟨_, ts, rfl, HTO.out.1, HTO.out.2, hks, Chg.below HB2.out HB2.out.size hch (by omega)⟩

set_option maxRecDepth 100000 in
set_option maxHeartbeats 4000000 in
theorem Clean_set (k n a m c b s a2 m2 c2) (deep f : Nat) (hd : deep ≤ 100) (hk : -9223372036854775808 ≤ k ∧ k ≤ 9223372036854775807) (hq : k % 10 = 9) (hm2 : m2 ≤ 9223372036854775807) (w : World)
    (hkids : m2 = 0 ∨ ∃ g p, a2 = some ⟨g, p, none⟩ ∧ g < w.heap.size ∧ ∀ i, i < m2 → ∃ u, V6 w g (p + i * 6) u ∧ RawAt w f u)
    (hE : ∀ u W, RawAt W f u → Below w.heap.size w W → Calls Tryz.prog 6 #[u, .int .i64 deep] W (CleanIs deep W)) :
    Calls Tryz.prog 6 #[sixV k n a m c b s a2 m2 c2, .int .i64 ((deep : Int) + 1)] w fun e w' => ∃ ks ts, e = .returned (valSix 9 0 ⟨#[]⟩ ks) ∧ ts.length ≤ 8 ∧ SetOk (deep + 1) ts ∧ KidsB w' (fun b => w.heap.size ≤ b) (ValB w' (fun b => w.heap.size ≤ b) (deep + 1)) ks ts ∧ Below w.heap.size w w' := by
  obtain ⟨hm, hq0, hq9⟩ := kind_mod k hk
  rw [hq] at hm hq0 hq9
  obtain ⟨w1, hw1⟩ : ∃ w1, w1 = (w.alloc (sixO k n a m c b s a2 m2 c2)).alloc (sixO 0 false none 0 0 0 ⟨#[]⟩ none 0 0) := ⟨_, rfl⟩
  obtain ⟨r0, r1, hb1, _⟩ := two_new w (sixO k n a m c b s a2 m2 c2) (sixO 0 false none 0 0 0 ⟨#[]⟩ none 0 0)
  rw [← hw1] at r0 r1 hb1
  have HW1 := Lib.hid hw1; have HB1 := Lib.hid hb1; have HR0 := Lib.hid r0; have HR1 := Lib.hid r1
  have HC := Lib.hid (cleanSet_any k n a m c b s a2 m2 c2 deep f hd hm2 w1 (by
    rcases hkids with h | ⟨g, p, e, hg, h⟩
    · exact .inl h
    · exact .inr ⟨g, p, e, Nat.lt_of_lt_of_le hg hb1.size, fun i hi => by
        obtain ⟨u, hu, hr⟩ := h i hi
        exact ⟨u, hu.below hg hb1, hr.below hb1⟩⟩) (fun u W hr hb => hE u W hr (hb1.trans (hb.mono hb1.size))))
  obtain ⟨x0, x1, x2, x3, x4, x5⟩ := box6 r0 (Below.refl _ _)
  obtain ⟨z0, z1, z2, z3, z4, z5⟩ := box6 r1 (Below.refl _ _)
  have hdd : ¬ ((deep : Int) + 1 ≤ 0) := by omega
  have hw1s : w.heap.size + 2 ≤ w1.heap.size := by rw [hw1]; simp
  clear hw1 r0 r1 hb1 hk hq hkids hE
  go_enter Tryz.func6, Tryz.ntmps6
  go_upto_if 18 with fail
  rw [← HW1.out]
  go_wp2_with fail
  refine HC.out.mono ?_
  rintro e w2 ⟨ks, rfl, ts, htl, hto, hks, hb2⟩
  have HB2 := Lib.hid (HB1.out.trans (hb2.mono HB1.out.size))
  have HR2 := Lib.hid ((hb2.block _ (Array.getElem?_eq_some_iff.1 HR1.out).1).trans HR1.out)
  obtain ⟨ka, kn, kc, rfl⟩ : ∃ a n c, ks = .slice a n c := by
    rcases hks.shape with ⟨_, a, c, h⟩ | ⟨_, g, p, c, h⟩
    · exact ⟨_, _, _, h⟩
    · exact ⟨_, _, _, h⟩
  have HKS := Lib.hid hks; have HTO := Lib.hid (And.intro htl hto)
  obtain ⟨y0, y1, y2, y3, y4, y5⟩ := box6 HR2.out (Below.refl _ _)
  have fy : ∀ i, w2.frozen? ⟨w.heap.size + 1, i, none⟩ = false := six_frozen HR2.out
  clear hks htl hto hb2
  go_wp2
  obtain ⟨e0, e1, e2, e3, e4, e5⟩ := box6 (put6_heap HR2.out) (Below.refl _ (put6 w2 (w.heap.size + 1) (.int .i64 9) (.bool false) (.slice none 0 0) (.int .u64 0) (.string ⟨#[]⟩) (.slice ka kn kc)))
  have hch := put6_chg w2 (w.heap.size + 1) (.int .i64 9) (.bool false) (.slice none 0 0) (.int .u64 0) (.string ⟨#[]⟩) (.slice ka kn kc)
  have hks := HKS.out.turn (S' := fun b => w.heap.size ≤ b) (Q := ValB _ (fun b => w.heap.size ≤ b) (deep + 1)) (fun b h => by have := HB1.out.size; omega) hch.size (fun b h hh => hch.block b hh (by omega)) (fun u t h => h.turn (S' := fun b => w.heap.size ≤ b) (fun b h => by have := HB1.out.size; omega) hch.size (fun b h hh => hch.block b hh (by omega)))
  unfold put6 at e0 e1 e2 e3 e4 e5
  exact bodyPost_ret (v := sixV 9 false none 0 0 0 ⟨#[]⟩ ka kn kc) (by simp [results, Tryz.results6, go_sem, e0, e1, e2, e3, e4, e5]) rfl ⟨_, ts, rfl, HTO.out.1, HTO.out.2, hks, Chg.below HB2.out HB2.out.size hch (by omega)⟩

theorem cleanT_flat {d : Nat} {T : Tr} (h : T.kids = []) (h2 : match T with | .lst _ | .tup _ | .dic _ | .set _ => False | _ => True) : CleanT (d + 1) T := by
  cases T <;> first | exact h2.elim | exact ⟨fun k hk => (by rw [h] at hk; cases hk), trivial⟩
theorem Clean_any : ∀ (deep f : Nat) (u : Value) (w : World), deep ≤ 100 → RawAt w f u → Calls Tryz.prog 6 #[u, .int .i64 deep] w (CleanIs deep w)
  | _, 0, _, _, _, h => h.elim
  | deep, f + 1, u, w, hd, h => by
    obtain ⟨k, n, a, m, c, b, s, a2, m2, c2, e, hk, hb, hs, hm, hm2, hmc, hm2c, ⟨V, hV⟩, hkids⟩ := h
    subst e
    have flat : ∀ q, ckind k deep = q → 0 ≤ q → q < 6 → Calls Tryz.prog 6 #[sixV k n a m c b s a2 m2 c2, .int .i64 deep] w (CleanIs deep w) := fun q hq h0 h6 => by
      have hc : q = 0 ∨ q = 1 ∨ q = 2 ∨ q = 3 ∨ q = 4 ∨ q = 5 := by omega
      have hsz : (s.extract 0 (min s.size 60)).size ≤ 60 := by simp; omega
      rcases hc with rfl | rfl | rfl | rfl | rfl | rfl
      · exact (Clean_none k n a m c b s a2 m2 c2 deep hd hk hq w).mono fun e w' ⟨he, hb⟩ => ⟨_, .non, he, rfl, cleanT_flat rfl trivial, hb⟩
      · exact (Clean_bool k n a m c b s a2 m2 c2 deep hd hk hq w).mono fun e w' ⟨he, hb⟩ => ⟨_, .bool _, he, rfl, cleanT_flat rfl trivial, hb⟩
      · exact (Clean_int k n a m c b s a2 m2 c2 deep V hd hk hq w hV hmc hm).mono fun e w' ⟨s', m', V', he, hm', hmag, hb⟩ => ⟨_, .int (n && decide (0 < V')) V', he, ⟨s', m', rfl, hmag, hm', fun h => by simp at h; exact h.2⟩, cleanT_flat rfl trivial, hb⟩
      · refine (Clean_flt k n a m c b s a2 m2 c2 deep hd hk hq w).mono fun e w' ⟨he, hb2⟩ => ⟨_, .flt b.toNat, he, ⟨?_, by omega⟩, cleanT_flat rfl trivial, hb2⟩
        rw [Int.toNat_of_nonneg hb.1]
      · exact (Clean_str k n a m c b s a2 m2 c2 deep hd hk hq hs w).mono fun e w' ⟨he, hb⟩ => ⟨_, .str _, he, ⟨rfl, hsz⟩, cleanT_flat rfl trivial, hb⟩
      · exact (Clean_byt k n a m c b s a2 m2 c2 deep hd hk hq hs w).mono fun e w' ⟨he, hb⟩ => ⟨_, .byt _, he, ⟨rfl, hsz⟩, cleanT_flat rfl trivial, hb⟩
    cases deep with
    | zero =>
      refine flat (ckind k 0) rfl ?_ ?_
      all_goals (unfold ckind; split <;> omega)
    | succ deep =>
      by_cases h6 : k % 10 < 6
      · refine flat (k % 10) ?_ (by omega) h6
        unfold ckind
        rw [if_neg (by omega)]
      · have hE : ∀ u W, RawAt W f u → Below w.heap.size w W → Calls Tryz.prog 6 #[u, .int .i64 deep] W (CleanIs deep W) := fun u W hr _ => Clean_any deep f u W (by omega) hr
        have hc : k % 10 = 6 ∨ k % 10 = 7 ∨ k % 10 = 8 ∨ k % 10 = 9 := by omega
        have hcast : ((deep + 1 : Nat) : Int) = (deep : Int) + 1 := rfl
        rw [hcast]
        rcases hc with hq | hq | hq | hq
        · exact (Clean_seq k n a m c b s a2 m2 c2 deep f (by omega) 6 (.inl rfl) hk hq hm2 w hkids hE).mono fun e w' ⟨ks, ts, he, hl, hct, hk2, hb⟩ => ⟨_, .lst ts, he, ⟨ks, rfl, hk2⟩, ⟨hct, hl⟩, hb⟩
        · exact (Clean_seq k n a m c b s a2 m2 c2 deep f (by omega) 7 (.inr rfl) hk hq hm2 w hkids hE).mono fun e w' ⟨ks, ts, he, hl, hct, hk2, hb⟩ => ⟨_, .tup ts, he, ⟨ks, rfl, hk2⟩, ⟨hct, Nat.le_trans hl (by decide)⟩, hb⟩
        · exact (Clean_dic k n a m c b s a2 m2 c2 deep f (by omega) hk hq hm2 w hkids hE).mono fun e w' ⟨ks, ts, he, hl, hct, hk2, hb⟩ => ⟨_, .dic ts, he, ⟨ks, rfl, hk2⟩, ⟨hct.2.1, hct.1, hl, hct.2.2.1, hct.2.2.2⟩, hb⟩
        · exact (Clean_set k n a m c b s a2 m2 c2 deep f (by omega) hk hq hm2 w hkids hE).mono fun e w' ⟨ks, ts, he, hl, hct, hk2, hb⟩ => ⟨_, .set ts, he, ⟨ks, rfl, hk2⟩, ⟨fun k hk => (hct.1 k hk).1, hl, fun k hk => (hct.1 k hk).2, hct.2⟩, hb⟩
end Go.Proofs.YtkbmnlkbfomnmaaGreatDoor

/- Walks: a value's truth. -/
set_option linter.unusedVariables false
set_option linter.unusedSimpArgs false
namespace Go.Proofs.YtkbmnlkbfomnmaaGreatDoor
open Go.RowKit
open Num

/-- a value's truth -/
def truthT : Tr → Bool
  | .non => false
  | .bool b => b
  | .int _ V => decide (0 < V)
  | .flt B => !(FloatKind.f64.format.order B 0 == some .eq)
  | .str s => decide (0 < s.size)
  | .byt s => decide (0 < s.size)
  | .lst l => decide (0 < l.length)
  | .tup l => decide (0 < l.length)
  | .dic l => decide (0 < l.length)
  | .set l => decide (0 < l.length)

theorem Truth_none (v : Value) (w : World) : Calls Tryz.prog 250 #[v] w fun e w' => e = .returned (.bool false) ∧ Below w.heap.size w w' := by
  go_enter Tryz.func250, Tryz.ntmps250
  go_wp2
  go_ret
  exact ⟨rfl, Below.refl _ _⟩
theorem Truth_bool (b : Bool) (w : World) : Calls Tryz.prog 201 #[.bool b] w fun e w' => e = .returned (.bool b) ∧ Below w.heap.size w w' := by
  go_enter Tryz.func201, Tryz.ntmps201
  go_wp2
  go_ret
  exact ⟨rfl, Below.refl _ _⟩
theorem Truth_flt (B : Nat) (w : World) : Calls Tryz.prog 268 #[.float .f64 B] w fun e w' => e = .returned (.bool (!(FloatKind.f64.format.order B 0 == some .eq))) ∧ Below w.heap.size w w' := by
  go_enter Tryz.func268, Tryz.ntmps268
  go_wp2
  go_ret
  exact ⟨by first | rfl | simp, Below.refl _ _⟩
theorem Truth_str (s : ByteArray) (hs : s.size ≤ 9223372036854775807) (w : World) : Calls Tryz.prog 280 #[.string s] w fun e w' => e = .returned (.bool (decide (0 < s.size))) ∧ Below w.heap.size w w' := by
  have h : decide ((s.size : Int) > 0) = decide (0 < s.size) := by rw [decide_eq_decide]; omega
  go_enter Tryz.func280, Tryz.ntmps280
  go_wp2
  go_ret
  exact ⟨by first | rfl | simp, Below.refl _ _⟩
theorem Truth_byt (s : ByteArray) (hs : s.size ≤ 9223372036854775807) (w : World) : Calls Tryz.prog 291 #[.string s] w fun e w' => e = .returned (.bool (decide (0 < s.size))) ∧ Below w.heap.size w w' := by
  go_enter Tryz.func291, Tryz.ntmps291
  go_wp2
  go_ret
  exact ⟨by first | rfl | simp, Below.refl _ _⟩
theorem Truth_tup (a : Option Addr) (n c : Nat) (w : World) : Calls Tryz.prog 216 #[.slice a n c] w fun e w' => e = .returned (.bool (decide (0 < n))) ∧ Below w.heap.size w w' := by
  go_enter Tryz.func216, Tryz.ntmps216
  go_wp2
  go_ret
  exact ⟨by first | rfl | simp, Below.refl _ _⟩
theorem ListLen_any (b n c : Nat) (a : Option Addr) (w : World) (h : w.cell? ⟨b, 0, none⟩ = some (.slice a n c)) : Calls Tryz.prog 211 #[.pointer (some ⟨b, 0, none⟩)] w fun e w' => e = .returned (.int .i64 n) ∧ w' = w := by
  go_enter Tryz.func211, Tryz.ntmps211
  go_wp2
  go_ret
  exact ⟨rfl, rfl⟩
theorem Truth_lst (b n c : Nat) (a : Option Addr) (w : World) (h : w.cell? ⟨b, 0, none⟩ = some (.slice a n c)) : Calls Tryz.prog 208 #[.pointer (some ⟨b, 0, none⟩)] w fun e w' => e = .returned (.bool (decide (0 < n))) ∧ Below w.heap.size w w' := by
  have HL := Lib.hid (ListLen_any b n c a w h)
  go_enter Tryz.func208, Tryz.ntmps208
  go_wp2_with fail
  refine HL.out.mono ?_
  rintro e w2 ⟨rfl, rfl⟩
  go_wp2
  go_ret
  exact ⟨by first | rfl | simp, Below.refl _ _⟩
theorem Truth_dic (b n : Nat) (w : World) (h : w.cell? ⟨b, 42, none⟩ = some (.int .u32 n)) (hn : n ≤ 8) : Calls Tryz.prog 222 #[.pointer (some ⟨b, 0, none⟩)] w fun e w' => e = .returned (.bool (decide (0 < n))) ∧ Below w.heap.size w w' := by
  have HL := Lib.hid (DictLen_any b n w h hn)
  go_enter Tryz.func222, Tryz.ntmps222
  go_wp2_with fail
  refine HL.out.mono ?_
  rintro e w2 ⟨rfl, rfl⟩
  go_wp2
  go_ret
  exact ⟨by first | rfl | simp, Below.refl _ _⟩
theorem Truth_set (b n : Nat) (w : World) (h : w.cell? ⟨b, 42, none⟩ = some (.int .u32 n)) (hn : n ≤ 8) : Calls Tryz.prog 231 #[.pointer (some ⟨b, 0, none⟩)] w fun e w' => e = .returned (.bool (decide (0 < n))) ∧ Below w.heap.size w w' := by
  have HL := Lib.hid (SetLen_any b n w h hn)
  go_enter Tryz.func231, Tryz.ntmps231
  go_wp2_with fail
  refine HL.out.mono ?_
  rintro e w2 ⟨rfl, rfl⟩
  go_wp2
  go_ret
  exact ⟨by first | rfl | simp, Below.refl _ _⟩

theorem Sign_int (base : Nat) (v : Value) (neg : Bool) (V : Nat) (w : World) (hI : IntIs w base v neg V) (hn : neg = true → 0 < V) :
    Calls Tryz.prog 262 #[v] w fun e w' => ∃ s : Int, e = .returned (.int .i64 s) ∧ (s != 0) = decide (0 < V) ∧ Below w.heap.size w w' := by
  cases hs : sm neg V
  · obtain ⟨b, rfl, s, n, hh, hw⟩ := hI.big hs
    have HG := Lib.hid (fun W => get_any 0 (some ⟨b, 0, none⟩) W)
    obtain ⟨a, c, rfl⟩ := hw.shape
    have hl := (Array.getElem?_eq_some_iff.1 hh).1
    have x0 := (cell_of_row w b 0 _ _ (0, 0) hh).trans rfl
    have x1 := (cell_of_row w b 1 _ _ (0, 0) hh).trans rfl
    have HX := Lib.hid (And.intro x0 x1)
    have hV : 0 < V := by
      rcases Nat.eq_zero_or_pos V with h | h
      · subst h; simp [sm] at hs
      · exact h
    have hn0 : n ≠ 0 := fun h => by have := hw.1.zero_iff.1 h; omega
    have HN := Lib.hid (And.intro hV hn0)
    clear hI hs hh hw x0 x1 hV hn0
    go_enter Tryz.func262, Tryz.ntmps262
    go_wp2_with fail
    refine (HG.out _).mono ?_
    rintro e w2 ⟨rfl, hb2⟩
    have hb : Below w.heap.size w w2 := ((Below.refl _ _).alloc (Nat.le_refl _) _).trans (hb2.mono (by simp))
    have HB := Lib.hid hb
    have HS := Lib.hid (Sign_any b 0 n c a neg w2 ((hb.cell (p := ⟨b, 0, none⟩) hl).trans HX.out.1) ((hb.cell (p := ⟨b, 0 + 1, none⟩) hl).trans HX.out.2))
    clear hb2 hb
    obtain ⟨z, hz⟩ : ∃ z : Int, z = (if n = 0 then 0 else if neg then -1 else 1) := ⟨_, rfl⟩
    rw [← hz] at HS
    have HZ := Lib.hid hz
    clear hz
    go_wp2_with fail
    refine HS.out.mono ?_
    rintro e w3 ⟨rfl, rfl⟩
    go_wp2
    go_ret
    refine ⟨z, rfl, ?_, HB.out⟩
    rw [HZ.out, if_neg HN.out.2, decide_eq_true HN.out.1]
    cases neg <;> decide
  · rcases hI with ⟨_, rfl⟩ | ⟨h, _⟩
    case inr => rw [hs] at h; cases h
    obtain ⟨_, h2, h3⟩ := lowW_small neg V hs
    obtain ⟨z, hz⟩ : ∃ z : Int, z = sI neg V := ⟨_, rfl⟩
    have hz2 : (if neg then -(V : Int) else (V : Int)) = z := by rw [hz]; rfl
    rw [hz2]
    rw [← hz] at h2 h3
    have HZ := Lib.hid hz
    have HG := Lib.hid (fun W => get_any z none W)
    have HS := Lib.hid (fun W => signum64_any z (by omega) (by omega) W)
    clear hz hz2 hs
    go_enter Tryz.func262, Tryz.ntmps262
    go_wp2_with fail
    refine (HG.out _).mono ?_
    rintro e w2 ⟨rfl, hb2⟩
    have HB := Lib.hid (((Below.refl _ _).alloc (Nat.le_refl _) _).trans (hb2.mono (by simp)))
    clear hb2
    go_wp2_with fail
    refine (HS.out _).mono ?_
    rintro e w3 ⟨rfl, rfl⟩
    go_wp2
    go_ret
    refine ⟨_, rfl, ?_, HB.out⟩
    rw [Bool.eq_iff_iff, bne_iff_ne, decide_eq_true_iff, ne_eq, icmp_zero, HZ.out]
    unfold sI
    cases neg
    · simp; omega
    · simp; omega
theorem Truth_int (base : Nat) (v : Value) (neg : Bool) (V : Nat) (w : World) (hI : IntIs w base v neg V) (hn : neg = true → 0 < V) :
    Calls Tryz.prog 257 #[v] w fun e w' => e = .returned (.bool (decide (0 < V))) ∧ Below w.heap.size w w' := by
  obtain ⟨z, p, rfl⟩ := hI.shape
  have HS := Lib.hid (Sign_int base _ neg V (w.alloc (.cells #[.int .i64 z, .pointer p] 83)) (hI.below ((Below.refl _ _).alloc (Nat.le_refl _) _)) hn)
  clear hI
  go_enter Tryz.func257, Tryz.ntmps257
  go_wp2_with fail
  refine HS.out.mono ?_
  rintro e w2 ⟨s, rfl, hs, hb⟩
  have HB := Lib.hid (((Below.refl w.heap.size w).alloc (Nat.le_refl _) _).trans (hb.mono (by simp))); clear hb
  go_wp2
  go_ret
  exact ⟨by first | rfl | (rw [← hs]; done) | (rw [← hs]; rfl), HB.out⟩

theorem truth_of_none (v : Value) (w : World) : (method 395 78 v "Truth").run Tryz.prog w = .ok (250, v) w := by kernel_rfl
theorem entr_none (a : Array Value) (w : World) : (callFunc 250 a).run Tryz.prog w = .ok (.enter 250 a) w := by kernel_rfl
theorem truth_of_bool (v : Value) (w : World) : (method 395 44 v "Truth").run Tryz.prog w = .ok (201, v) w := by kernel_rfl
theorem entr_bool (a : Array Value) (w : World) : (callFunc 201 a).run Tryz.prog w = .ok (.enter 201 a) w := by kernel_rfl
theorem truth_of_int (v : Value) (w : World) : (method 395 83 v "Truth").run Tryz.prog w = .ok (257, v) w := by kernel_rfl
theorem entr_int (a : Array Value) (w : World) : (callFunc 257 a).run Tryz.prog w = .ok (.enter 257 a) w := by kernel_rfl
theorem truth_of_flt (v : Value) (w : World) : (method 395 85 v "Truth").run Tryz.prog w = .ok (268, v) w := by kernel_rfl
theorem entr_flt (a : Array Value) (w : World) : (callFunc 268 a).run Tryz.prog w = .ok (.enter 268 a) w := by kernel_rfl
theorem truth_of_str (v : Value) (w : World) : (method 395 87 v "Truth").run Tryz.prog w = .ok (280, v) w := by kernel_rfl
theorem entr_str (a : Array Value) (w : World) : (callFunc 280 a).run Tryz.prog w = .ok (.enter 280 a) w := by kernel_rfl
theorem truth_of_byt (v : Value) (w : World) : (method 395 88 v "Truth").run Tryz.prog w = .ok (291, v) w := by kernel_rfl
theorem entr_byt (a : Array Value) (w : World) : (callFunc 291 a).run Tryz.prog w = .ok (.enter 291 a) w := by kernel_rfl
theorem truth_of_tup (v : Value) (w : World) : (method 395 64 v "Truth").run Tryz.prog w = .ok (216, v) w := by kernel_rfl
theorem entr_tup (a : Array Value) (w : World) : (callFunc 216 a).run Tryz.prog w = .ok (.enter 216 a) w := by kernel_rfl
theorem truth_of_lst (v : Value) (w : World) : (method 395 62 v "Truth").run Tryz.prog w = .ok (208, v) w := by kernel_rfl
theorem entr_lst (a : Array Value) (w : World) : (callFunc 208 a).run Tryz.prog w = .ok (.enter 208 a) w := by kernel_rfl
theorem truth_of_dic (v : Value) (w : World) : (method 395 65 v "Truth").run Tryz.prog w = .ok (222, v) w := by kernel_rfl
theorem entr_dic (a : Array Value) (w : World) : (callFunc 222 a).run Tryz.prog w = .ok (.enter 222 a) w := by kernel_rfl
theorem truth_of_set (v : Value) (w : World) : (method 395 68 v "Truth").run Tryz.prog w = .ok (231, v) w := by kernel_rfl
theorem entr_set (a : Array Value) (w : World) : (callFunc 231 a).run Tryz.prog w = .ok (.enter 231 a) w := by kernel_rfl

/-- a value's Truth, called through the interface, answers r -/
def TruthIs (v : Value) (w : World) (r : Bool) : Prop :=
  ∃ t u f, v = .iface t u ∧ (∀ W : World, (method 395 t u "Truth").run Tryz.prog W = .ok (f, u) W) ∧ (∀ (a : Array Value) (W : World), (callFunc f a).run Tryz.prog W = .ok (.enter f a) W) ∧
    Calls Tryz.prog f #[u] w fun e w' => e = .returned (.bool r) ∧ Below w.heap.size w w'

theorem tab_len {w : World} {t : TypeId} {b d : Nat} {P Q : Value → Tr → Prop} {ks vs : List Tr} (h : TabAt w t b P Q d ks vs) : w.cell? ⟨b, 42, none⟩ = some (.int .u32 ks.length) ∧ ks.length ≤ 8 := by
  obtain ⟨K, V, laid, h1, h2, h3, hr, hk⟩ := h
  exact ⟨hr.cell (i := 42) (by omega), h1⟩
theorem Truth_any (d : Nat) (v : Value) (T : Tr) (w : World) (h : StarAt w d v T) : TruthIs v w (truthT T) := by
  cases d with
  | zero => exact h.elim
  | succ d =>
    cases T with
    | non => obtain rfl := h; exact ⟨_, _, _, rfl, truth_of_none _, entr_none, Truth_none _ w⟩
    | bool b => obtain rfl := h; exact ⟨_, _, _, rfl, truth_of_bool _, entr_bool, Truth_bool b w⟩
    | int n V => obtain ⟨u, rfl, h1, h2, h3⟩ := h; exact ⟨_, _, _, rfl, truth_of_int _, entr_int, Truth_int 0 u n V w h1 h2⟩
    | flt B => obtain ⟨rfl, hB⟩ := h; exact ⟨_, _, _, rfl, truth_of_flt _, entr_flt, Truth_flt B w⟩
    | str s => obtain ⟨rfl, hs⟩ := h; exact ⟨_, _, _, rfl, truth_of_str _, entr_str, Truth_str s (by omega) w⟩
    | byt s => obtain ⟨rfl, hs⟩ := h; exact ⟨_, _, _, rfl, truth_of_byt _, entr_byt, Truth_byt s (by omega) w⟩
    | tup l => obtain ⟨s, rfl, h1⟩ := h; obtain ⟨a, c, rfl⟩ := h1.shape; exact ⟨_, _, _, rfl, truth_of_tup _, entr_tup, Truth_tup a l.length c w⟩
    | lst l =>
      obtain ⟨b, s, rfl, h1, h2⟩ := h
      obtain ⟨a, c, rfl⟩ := h2.shape
      exact ⟨_, _, _, rfl, truth_of_lst _, entr_lst, Truth_lst b l.length c a w ((cell_of_row w b 0 _ _ (0, 0) h1).trans rfl)⟩
    | dic l =>
      obtain ⟨b, rfl, h1, h2⟩ := h
      obtain ⟨h3, h4⟩ := tab_len h2
      refine ⟨_, _, _, rfl, truth_of_dic _, entr_dic, ?_⟩
      rw [show truthT (.dic l) = decide (0 < (keysOf l).length) by show decide _ = decide _; rw [decide_eq_decide, keysOf_length]; omega]
      exact Truth_dic b _ w h3 h4
    | set l =>
      obtain ⟨b, rfl, h2⟩ := h
      obtain ⟨h3, h4⟩ := tab_len h2
      exact ⟨_, _, _, rfl, truth_of_set _, entr_set, Truth_set b _ w h3 h4⟩

/-- impl.Truth of a clean value -/
theorem implTruth_any (d : Nat) (v : Value) (T : Tr) (w : World) (hd : d ≤ 11) (h : ValAt w d v T) (hc : CleanT d T) (hkt : KT w) (hcl : CL w) :
    Calls Tryz.prog 7 #[v] w fun e w' => e = .returned (.tuple #[.bool (truthT T), .bool true]) ∧ Below w.heap.size w w' := by
  obtain ⟨k, n, a, m, c, b, s, a2, m2, c2, rfl⟩ := h.shape
  have hb0 : Below w.heap.size w (w.alloc (.cells #[.int .i64 k, .bool n, .slice a m c, .int .u64 b, .string s, .slice a2 m2 c2] 26)) := (Below.refl _ _).alloc (Nat.le_refl _) _
  have HV := Lib.hid (value_any d _ T (w.alloc (.cells #[.int .i64 k, .bool n, .slice a m c, .int .u64 b, .string s, .slice a2 m2 c2] 26)) hd (h.below hb0) hc (hkt.below hb0) (hcl.below hb0))
  have HB0 := Lib.hid hb0
  clear h hc hkt hcl hb0
  go_enter Tryz.func7, Tryz.ntmps7
  go_wp2_with fail
  refine HV.out.mono ?_
  rintro e w2 ⟨u, rfl, hu, hb2⟩
  obtain ⟨t, x, f, hux, hm, hen, hcall⟩ := Truth_any d u T w2 hu.self
  subst hux
  have HC := Lib.hid hcall
  have HB2 := Lib.hid (HB0.out.trans (hb2.mono HB0.out.size))
  clear hu hb2 hcall
  go_wp2_with fail
  refine HC.out.mono ?_
  rintro e w3 ⟨rfl, hb3⟩
  have HB3 := Lib.hid (HB2.out.trans (hb3.mono HB2.out.size)); clear hb3
  go_wp2
  go_ret2
  exact ⟨rfl, HB3.out⟩
end Go.Proofs.YtkbmnlkbfomnmaaGreatDoor

/- Walks: the specification's truth; the law FnTruth. -/
set_option linter.unusedVariables false
set_option linter.unusedSimpArgs false
namespace Go.Proofs.YtkbmnlkbfomnmaaGreatDoor
open Go.RowKit
open Num

set_option maxRecDepth 100000 in
set_option maxHeartbeats 4000000 in
theorem specTruth_any (d : Nat) (v : Value) (T : Tr) (w : World) (h : ValAt w d v T) :
    Calls Tryz.prog 8 #[v] w fun e w' => e = .returned (.bool (truthT T)) ∧ Below w.heap.size w w' := by
  cases d with
  | zero => exact h.elim
  | succ d =>
    have kids : ∀ (k : Int) (l : List Tr) (ks : Value), 6 ≤ k → KidsAt w (ValAt w d) ks l → Calls Tryz.prog 8 #[valSix k 0 ⟨#[]⟩ ks] w fun e w' => e = .returned (.bool (decide (0 < l.length))) ∧ Below w.heap.size w w' := fun k l ks hk hs => by
      have e1 : (k == 1) = false := by simp; omega
      have e2 : (k == 2) = false := by simp; omega
      have e3 : (k == 3) = false := by simp; omega
      have e4 : (k == 4) = false := by simp; omega
      have e5 : (k == 5) = false := by simp; omega
      obtain ⟨a, c, rfl⟩ : ∃ a c, ks = .slice a l.length c := by
        rcases hs with ⟨rfl, a, c, h⟩ | ⟨_, g, p, c, h, _⟩
        · exact ⟨a, c, h⟩
        · exact ⟨_, c, h⟩
      clear hs hk
      go_enter Tryz.func8, Tryz.ntmps8
      go_wp2
      go_ret
      refine ⟨?_, below_al0 _ _⟩
      first | rfl | simp
    cases T with
    | non =>
      obtain rfl := h
      go_enter Tryz.func8, Tryz.ntmps8
      go_wp2
      go_ret
      exact ⟨rfl, below_al0 _ _⟩
    | bool b =>
      obtain rfl := h
      cases b
      all_goals
        go_enter Tryz.func8, Tryz.ntmps8
        go_wp2
        go_ret
        exact ⟨rfl, below_al0 _ _⟩
    | int n V =>
      obtain ⟨s, m, rfl, hm, hm40, hn⟩ := h
      obtain ⟨a, c, rfl⟩ := hm.shape
      have hb0 : Below w.heap.size w (w.alloc (.cells #[.int .i64 2, .bool n, .slice a m c, .int .u64 0, .string ⟨#[]⟩, .slice none 0 0] 26)) := (Below.refl _ _).alloc (Nat.le_refl _) _
      have HN := Lib.hid (Num_int n _ m V _ (hm.below hb0) (by omega) hn)
      have HB0 := Lib.hid hb0
      have HM := Lib.hid hm
      clear hm hb0 hm40 hn
      go_enter Tryz.func8, Tryz.ntmps8
      go_wp2_with fail
      refine HN.out.mono ?_
      rintro e w2 ⟨s', m', rfl, hm', hmag, hb2⟩
      obtain ⟨a', c', rfl⟩ := hmag.shape
      have HZ := Lib.hid (Zero_any n _ m' V w2 hmag)
      have HB2 := Lib.hid (HB0.out.trans (hb2.mono HB0.out.size))
      have hz : (!(m' == 0)) = decide (0 < V) := by
        have := hmag.1.zero_iff
        by_cases h0 : m' = 0
        · have : V = 0 := this.1 h0
          simp [h0, this]
        · have : V ≠ 0 := fun h => h0 (this.2 h)
          have h2 : 0 < V := by omega
          simp [h0, h2]
      clear hm' hmag hb2
      go_wp2_with fail
      refine HZ.out.mono ?_
      rintro e w3 ⟨rfl, rfl⟩
      have HZZ := Lib.hid hz
      clear hz
      go_wp2
      go_ret
      refine ⟨?_, HB2.out.alloc HB2.out.size _⟩
      show _ = Ending.returned (.bool (decide (0 < V)))
      rw [← HZZ.out]
      rfl
    | flt B =>
      obtain ⟨rfl, hB⟩ := h
      have HF := Lib.hid (fun W : World => Fl_float B W)
      go_enter Tryz.func8, Tryz.ntmps8
      go_wp2_with fail
      refine (HF.out _).mono ?_
      rintro e w2 ⟨rfl, hb2⟩
      have HB2 := Lib.hid ((below_al0 _ _).trans (hb2.mono (by simp)))
      clear hb2
      go_wp2
      go_ret
      exact ⟨rfl, HB2.out⟩
    | str s =>
      obtain ⟨rfl, hs⟩ := h
      show Calls _ _ _ _ fun e w' => e = .returned (.bool (decide (0 < s.size))) ∧ _
      clear hs
      go_enter Tryz.func8, Tryz.ntmps8
      go_wp2
      go_ret
      refine ⟨?_, below_al0 _ _⟩
      first | rfl | simp
    | byt s =>
      obtain ⟨rfl, hs⟩ := h
      show Calls _ _ _ _ fun e w' => e = .returned (.bool (decide (0 < s.size))) ∧ _
      clear hs
      go_enter Tryz.func8, Tryz.ntmps8
      go_wp2
      go_ret
      refine ⟨?_, below_al0 _ _⟩
      first | rfl | simp
    | lst l => obtain ⟨ks, rfl, hk⟩ := h; exact kids 6 l ks (by decide) hk
    | tup l => obtain ⟨ks, rfl, hk⟩ := h; exact kids 7 l ks (by decide) hk
    | dic l => obtain ⟨ks, rfl, hk⟩ := h; exact kids 8 l ks (by decide) hk
    | set l => obtain ⟨ks, rfl, hk⟩ := h; exact kids 9 l ks (by decide) hk

theorem zzFits7_any (k n a m c b s a2 m2 c2) (w : World) :
    Calls Tryz.prog 5 #[sixV k n a m c b s a2 m2 c2] w fun e w' => ∃ r, e = .returned (.bool r) ∧ Below w.heap.size w w' := by
  by_cases h1 : (2147483647 : Int) < (m : Int)
  · go_enter Tryz.func5, Tryz.ntmps5
    go_wp2
    go_ret
    first | exact ⟨_, rfl, below_al0 _ _⟩ | exact ⟨by first | exact .inl rfl | exact .inr rfl, below_al0 _ _⟩
  · by_cases h2 : (2147483647 : Int) < (s.size : Int)
    · go_enter Tryz.func5, Tryz.ntmps5
      go_wp2
      go_ret
      first | exact ⟨_, rfl, below_al0 _ _⟩ | exact ⟨by first | exact .inl rfl | exact .inr rfl, below_al0 _ _⟩
    · by_cases h3 : (2147483647 : Int) < (m2 : Int)
      · go_enter Tryz.func5, Tryz.ntmps5
        go_wp2
        go_ret
        first | exact ⟨_, rfl, below_al0 _ _⟩ | exact ⟨by first | exact .inl rfl | exact .inr rfl, below_al0 _ _⟩
      · go_enter Tryz.func5, Tryz.ntmps5
        go_wp2
        go_ret
        first | exact ⟨_, rfl, below_al0 _ _⟩ | exact ⟨by first | exact .inl rfl | exact .inr rfl, below_al0 _ _⟩

set_option maxRecDepth 100000 in
set_option maxHeartbeats 4000000 in
theorem FnTruth_any (f : Nat) (u : Value) (w : World) (hkt : KT w) (hcl : CL w) (h : RawAt w (f + 1) u) :
    Calls Tryz.prog 3 #[u] w fun e w' => e = .returned (.bool true) ∧ Below w.heap.size w w' := by
  have hr := h
  obtain ⟨k, n, a, m, c, b, s, a2, m2, c2, e, _⟩ := h
  subst e
  have hb0 : Below w.heap.size w (w.alloc (.cells #[.int .i64 k, .bool n, .slice a m c, .int .u64 b, .string s, .slice a2 m2 c2] 26)) := (Below.refl _ _).alloc (Nat.le_refl _) _
  have HF := Lib.hid (zzFits7_any k n a m c b s a2 m2 c2 (w.alloc (.cells #[.int .i64 k, .bool n, .slice a m c, .int .u64 b, .string s, .slice a2 m2 c2] 26)))
  have HB0 := Lib.hid hb0
  have HR := Lib.hid hr; have HKT := Lib.hid hkt; have HCL := Lib.hid hcl
  clear hr hb0 hkt hcl
  go_enter Tryz.func3, Tryz.ntmps3
  go_wp2_with fail
  refine HF.out.mono ?_
  rintro e w1 ⟨r, rfl, hb1⟩
  have HB1 := Lib.hid (HB0.out.trans (hb1.mono HB0.out.size))
  obtain ⟨x0, x1, x2, x3, x4, x5⟩ := box6 (heap_alloc_new w (sixO k n a m c b s a2 m2 c2)) hb1
  clear hb1
  cases r with
  | false =>
    go_wp2
    go_ret
    exact ⟨rfl, HB1.out⟩
  | true =>
    have HC := Lib.hid (Clean_any 3 (f + 1) _ w1 (by decide) (HR.out.below HB1.out))
    go_wp2_with fail
    refine HC.out.mono ?_
    rintro e w2 ⟨x, T, rfl, hx, hT, hb2⟩
    obtain ⟨k', n', a', m', c', b', s', d', o', f', hxx⟩ := hx.at_.shape
    subst hxx
    have HB2 := Lib.hid (HB1.out.trans (hb2.mono HB1.out.size))
    have hb3 : Below w2.heap.size w2 (w2.alloc (sixO k' n' a' m' c' b' s' d' o' f')) := (Below.refl _ _).alloc (Nat.le_refl _) _
    have HT := Lib.hid (implTruth_any 4 _ T (w2.alloc (sixO k' n' a' m' c' b' s' d' o' f')) (by decide) (hx.at_.below hb3) hT ((HKT.out.below HB2.out).below hb3) ((HCL.out.below HB2.out).below hb3))
    have HX := Lib.hid (hx.at_.below hb3)
    clear hb2 hb3 hx hT
    go_wp2_with fail
    refine HT.out.mono ?_
    rintro e w4 ⟨rfl, hb4⟩
    have HS := Lib.hid (specTruth_any 4 _ T w4 (HX.out.below hb4))
    obtain ⟨v0, v1, v2, v3, v4, v5⟩ := box6 (heap_alloc_new w2 (sixO k' n' a' m' c' b' s' d' o' f')) hb4
    have HB4 := Lib.hid ((HB2.out.alloc HB2.out.size (sixO k' n' a' m' c' b' s' d' o' f')).trans (hb4.mono (Nat.le_trans HB2.out.size (by simp))))
    obtain ⟨t, ht⟩ : ∃ t, t = truthT T := ⟨_, rfl⟩
    rw [← ht] at HS ⊢
    clear hb4 ht
    go_wp2_with fail
    refine HS.out.mono ?_
    rintro e w5 ⟨rfl, hb5⟩
    have HB5 := Lib.hid (HB4.out.trans (hb5.mono HB4.out.size))
    clear hb5
    go_wp2
    go_ret
    refine ⟨?_, HB5.out⟩
    first | rfl | (cases t <;> rfl) | simp
end Go.Proofs.YtkbmnlkbfomnmaaGreatDoor

/- A value of the specification that came in: out of the reader's form into what the walk is told. -/
set_option linter.unusedVariables false
namespace Go.Proofs.YtkbmnlkbfomnmaaGreatDoor
open Go.RowKit Go.ChangeShapes Go.WideShapes Go.WideElems
open Num

theorem raw_mono : ∀ {f : Nat} {w : World} {v : Value}, RawAt w f v → RawAt w (f + 1) v
  | 0, _, _, h => h.elim
  | f + 1, w, v, h => by
    obtain ⟨k, n, a, m, c, b, s, a2, m2, c2, e, h1, h2, h3, h4, h5, h6, h7, h8, hk⟩ := h
    refine ⟨k, n, a, m, c, b, s, a2, m2, c2, e, h1, h2, h3, h4, h5, h6, h7, h8, ?_⟩
    rcases hk with hk | ⟨g, p, e2, hg, hk⟩
    · exact .inl hk
    · exact .inr ⟨g, p, e2, hg, fun i hi => by
        obtain ⟨u, hu, hr⟩ := hk i hi
        exact ⟨u, hu, raw_mono hr⟩⟩
theorem list_six {α : Type} {l : List α} (h : l.length = 6) : ∃ a b c d e f, l = [a, b, c, d, e, f] := by
  match l, h with
  | [a, b, c, d, e, f], _ => exact ⟨a, b, c, d, e, f, rfl⟩
theorem addPlain (b o i : Nat) : (⟨b, o, none⟩ : Addr).add i = ⟨b, o + i, none⟩ := by
  unfold Addr.add
  split
  · rename_i h; simp_all
  · rfl
theorem cellsRaw : Tryz.prog.cellsOf 26 = 6 := by kernel_rfl

theorem raw_of {H : Type} {enc : TypeId × Value → H} {W : World} : ∀ (fuel : Nat) (cs : List Value) (x : DataW H × List MemPlace), DataW.trod enc Tryz.prog W 0 (fun _ => true) true fuel 26 cs = some x →
    ∃ k n a m c b s a2 m2 c2, cs = [.int .i64 k, .bool n, .slice a m c, .int .u64 b, .string s, .slice a2 m2 c2] ∧ RawAt W fuel (sixV k n a m c b s a2 m2 c2) := by
  intro fuel
  induction fuel using Nat.strongRecOn with
  | _ fuel ih =>
    intro cs x h
    obtain ⟨xs, n0, rfl, rfl, hl, hlen, hf⟩ := DataW.trod_struct Tryz.underlying26 h
    rw [cellsRaw] at hl
    obtain ⟨c0, c1, c2, c3, c4, c5, rfl⟩ := list_six hl
    obtain ⟨x0, x1, x2, x3, x4, x5, rfl⟩ := list_six (show xs.length = 6 from hlen)
    have z3 : Tryz.prog.cellsOf 3 = 1 := by kernel_rfl
    have z4 : Tryz.prog.cellsOf 4 = 1 := by kernel_rfl
    have z22 : Tryz.prog.cellsOf 22 = 1 := by kernel_rfl
    have z23 : Tryz.prog.cellsOf 23 = 1 := by kernel_rfl
    have z9 : Tryz.prog.cellsOf 9 = 1 := by kernel_rfl
    have z24 : Tryz.prog.cellsOf 24 = 1 := by kernel_rfl
    have h0 : DataW.trod enc Tryz.prog W 0 (fun _ => true) true n0 3 (List.take (Tryz.prog.cellsOf 3) (List.drop 0 [c0, c1, c2, c3, c4, c5])) = some x0 := hf 0 _ rfl
    rw [z3] at h0
    replace h0 : DataW.trod enc Tryz.prog W 0 (fun _ => true) true n0 3 [c0] = some x0 := h0
    have h1 : DataW.trod enc Tryz.prog W 0 (fun _ => true) true n0 4 (List.take (Tryz.prog.cellsOf 4) (List.drop 1 [c0, c1, c2, c3, c4, c5])) = some x1 := hf 1 _ rfl
    rw [z4] at h1
    replace h1 : DataW.trod enc Tryz.prog W 0 (fun _ => true) true n0 4 [c1] = some x1 := h1
    have h2 : DataW.trod enc Tryz.prog W 0 (fun _ => true) true n0 22 (List.take (Tryz.prog.cellsOf 22) (List.drop 2 [c0, c1, c2, c3, c4, c5])) = some x2 := hf 2 _ rfl
    rw [z22] at h2
    replace h2 : DataW.trod enc Tryz.prog W 0 (fun _ => true) true n0 22 [c2] = some x2 := h2
    have h3 : DataW.trod enc Tryz.prog W 0 (fun _ => true) true n0 23 (List.take (Tryz.prog.cellsOf 23) (List.drop 3 [c0, c1, c2, c3, c4, c5])) = some x3 := hf 3 _ rfl
    rw [z23] at h3
    replace h3 : DataW.trod enc Tryz.prog W 0 (fun _ => true) true n0 23 [c3] = some x3 := h3
    have h4 : DataW.trod enc Tryz.prog W 0 (fun _ => true) true n0 9 (List.take (Tryz.prog.cellsOf 9) (List.drop 4 [c0, c1, c2, c3, c4, c5])) = some x4 := hf 4 _ rfl
    rw [z9] at h4
    replace h4 : DataW.trod enc Tryz.prog W 0 (fun _ => true) true n0 9 [c4] = some x4 := h4
    have h5 : DataW.trod enc Tryz.prog W 0 (fun _ => true) true n0 24 (List.take (Tryz.prog.cellsOf 24) (List.drop 5 [c0, c1, c2, c3, c4, c5])) = some x5 := hf 5 _ rfl
    rw [z24] at h5
    replace h5 : DataW.trod enc Tryz.prog W 0 (fun _ => true) true n0 24 [c5] = some x5 := h5
    obtain ⟨k, e0, _, wk⟩ := DataW.trod_int Tryz.underlying3 h0
    obtain ⟨n, e1, _⟩ := DataW.trod_bool Tryz.underlying4 h1
    obtain ⟨b, e3, _, wb⟩ := DataW.trod_int Tryz.underlying23 h3
    obtain ⟨s, e4, _, ws⟩ := DataW.trod_string Tryz.underlying9 h4
    injection e0 with e0; injection e1 with e1; injection e3 with e3; injection e4 with e4
    subst e0; subst e1; subst e3; subst e4
    have hmax : maxLen = 9223372036854775807 := rfl
    have wk' : (-9223372036854775808 : Int) ≤ k ∧ k ≤ 9223372036854775807 := bounds_i64 wk
    have wb' : (0 : Int) ≤ b ∧ b < 18446744073709551616 := by
      have := bounds_u64 wb
      omega
    obtain ⟨a, m, c, e2, hmc, hmm, hV⟩ : ∃ a m c, c2 = .slice a m c ∧ m ≤ c ∧ m ≤ maxLen ∧ ∃ V, BytAt W (.slice a m c) m V := by
      rcases open_ints Tryz.underlying22 Tryz.underlying5 (by kernel_rfl) h2 with ⟨hcs, _⟩ | ⟨x, l, c, zs, hcs, _, hl, hm, hz, _, hcell, hwz⟩
      · injection hcs with hcs
        exact ⟨none, 0, 0, hcs, Nat.le_refl _, by omega, 0, by simp, .inl ⟨rfl, none, 0, rfl⟩⟩
      · injection hcs with hcs
        exact ⟨some x, l, c, hcs, hl, by omega, bytAt_of hl (by simpa using hz) hcell hwz⟩
    subst e2
    obtain ⟨a2, m2, c2, e5, hmc2, hmm2, hkk⟩ : ∃ a2 m2 c2, c5 = .slice a2 m2 c2 ∧ m2 ≤ c2 ∧ m2 ≤ maxLen ∧ (m2 = 0 ∨ ∃ g p, a2 = some ⟨g, p, none⟩ ∧ g < W.heap.size ∧ ∀ i, i < m2 → ∃ u, V6 W g (p + i * 6) u ∧ RawAt W n0 u) := by
      rcases DataW.trod_slice Tryz.underlying24 h5 with ⟨hcs, _⟩ | ⟨ad, len, cap, elems, rest, n1, hn, hcs, _, _, hl, hm, hlen, hel, _, _⟩
      · injection hcs with hcs
        exact ⟨none, 0, 0, hcs, Nat.le_refl _, by omega, .inl rfl⟩
      · injection hcs with hcs
        refine ⟨some ad, len, cap, hcs, hl, by omega, ?_⟩
        by_cases h0 : len = 0
        · exact .inl h0
        · refine .inr ?_
          have key : ∀ i, i < len → ∃ cs y, W.cells? 0 (ad.add (i * 6)) 6 = some cs ∧ DataW.trod enc Tryz.prog W 0 (fun _ => true) true n1 26 cs = some y := fun i hi => by
            have := hel i hi
            rw [List.getElem?_eq_getElem (by omega), cellsRaw] at this
            cases hc : W.cells? 0 (ad.add (i * 6)) 6 with
            | none => rw [hc] at this; cases this
            | some cs => rw [hc] at this; exact ⟨cs, _, rfl, this⟩
          obtain ⟨g, p, spot⟩ := ad
          have hspot : spot = none ∧ g < W.heap.size := by
            obtain ⟨cs, y, hc, hy⟩ := key 0 (by omega)
            obtain ⟨_, hl6, hcell⟩ := World.cells?_some hc
            have h := hcell 0 (by omega)
            rw [List.getElem?_eq_getElem (by omega)] at h
            have hs := World.cell?_spot h
            refine ⟨by simpa [Addr.add] using hs, ?_⟩
            have := World.block_lt_of_cell? W _ h
            simpa [Addr.add] using this
          obtain ⟨rfl, hg⟩ := hspot
          refine ⟨g, p, rfl, hg, fun i hi => ?_⟩
          obtain ⟨cs, y, hc, hy⟩ := key i hi
          obtain ⟨k', n', a', m', c', b', s', d', o', f', rfl, hr⟩ := ih n1 (by omega) cs y hy
          obtain ⟨_, _, hcell⟩ := World.cells?_some hc
          refine ⟨sixV k' n' a' m' c' b' s' d' o' f', ⟨_, _, _, _, _, _, rfl, ?_, ?_, ?_, ?_, ?_, ?_⟩, by rw [hn]; exact raw_mono hr⟩
          · have h := hcell 0 (by omega); rw [addPlain, addPlain] at h; exact h
          · have h := hcell 1 (by omega); rw [addPlain, addPlain] at h; exact h
          · have h := hcell 2 (by omega); rw [addPlain, addPlain] at h; exact h
          · have h := hcell 3 (by omega); rw [addPlain, addPlain] at h; exact h
          · have h := hcell 4 (by omega); rw [addPlain, addPlain] at h; exact h
          · have h := hcell 5 (by omega); rw [addPlain, addPlain] at h; exact h
    subst e5
    exact ⟨k, n, a, m, c, b, s, a2, m2, c2, rfl, k, n, a, m, c, b, s, a2, m2, c2, rfl, wk', wb', by omega, by omega, by omega, hmc, hmc2, hV, hkk⟩
end Go.Proofs.YtkbmnlkbfomnmaaGreatDoor
