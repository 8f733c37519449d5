import Derived.Test.YtjkmppdmejgjiaaGreatDoorEz33
import Derived.ChangeSame
import Derived.ChangeSlices
import Derived.WideShapes
import Derived.KernelRfl
import Derived.OpenShut
import Derived.Deep.Fields23
import Derived.Test.YtjkmppdmejgjiaaGreatDoorEz29
import Derived.Test.YtjkmppdmejgjiaaGreatDoorEz23
/- Walks: Clean of dicts and sets; of any value. -/
set_option linter.unusedVariables false
set_option linter.unusedSimpArgs false
namespace Go.Proofs.YtjkmppdmejgjiaaGreatDoor
open Go.RowKit
open Num

set_option maxRecDepth 100000 in
set_option maxHeartbeats 4000000 in
theorem Clean_dic (k n a m c b s a2 m2 c2) (deep f : Nat) (hd : deep ≤ 100) (hk : -9223372036854775808 ≤ k ∧ k ≤ 9223372036854775807) (hq : k % 10 = 8) (hm2 : m2 ≤ 9223372036854775807) (w : World)
    (hkids : m2 = 0 ∨ ∃ g p, a2 = some ⟨g, p, none⟩ ∧ g < w.heap.size ∧ ∀ i, i < m2 → ∃ u, V6 w g (p + i * 6) u ∧ RawAt w f u)
    (hE : ∀ u W, RawAt W f u → Below w.heap.size w W → Calls Tryz.prog 6 #[u, .int .i64 deep] W (CleanIs deep W)) :
    Calls Tryz.prog 6 #[sixV k n a m c b s a2 m2 c2, .int .i64 ((deep : Int) + 1)] w fun e w' => ∃ ks ts, e = .returned (valSix 8 0 ⟨#[]⟩ ks) ∧ ts.length ≤ 16 ∧ DictOk (deep + 1) ts ∧ KidsB w' (fun b => w.heap.size ≤ b) (ValB w' (fun b => w.heap.size ≤ b) (deep + 1)) ks ts ∧ Below w.heap.size w w' := by
  obtain ⟨hm, hq0, hq9⟩ := kind_mod k hk
  rw [hq] at hm hq0 hq9
  obtain ⟨w1, hw1⟩ : ∃ w1, w1 = (w.alloc (sixO k n a m c b s a2 m2 c2)).alloc (sixO 0 false none 0 0 0 ⟨#[]⟩ none 0 0) := ⟨_, rfl⟩
  obtain ⟨r0, r1, hb1, _⟩ := two_new w (sixO k n a m c b s a2 m2 c2) (sixO 0 false none 0 0 0 ⟨#[]⟩ none 0 0)
  rw [← hw1] at r0 r1 hb1
  have HW1 := Lib.hid hw1; have HB1 := Lib.hid hb1; have HR0 := Lib.hid r0; have HR1 := Lib.hid r1
  have HC := Lib.hid (cleanDict_any k n a m c b s a2 m2 c2 deep f hd hm2 w1 (by
    rcases hkids with h | ⟨g, p, e, hg, h⟩
    · exact .inl h
    · exact .inr ⟨g, p, e, Nat.lt_of_lt_of_le hg hb1.size, fun i hi => by
        obtain ⟨u, hu, hr⟩ := h i hi
        exact ⟨u, hu.below hg hb1, hr.below hb1⟩⟩) (fun u W hr hb => hE u W hr (hb1.trans (hb.mono hb1.size))))
  obtain ⟨x0, x1, x2, x3, x4, x5⟩ := box6 r0 (Below.refl _ _)
  obtain ⟨z0, z1, z2, z3, z4, z5⟩ := box6 r1 (Below.refl _ _)
  have hdd : ¬ ((deep : Int) + 1 ≤ 0) := by omega
  have hw1s : w.heap.size + 2 ≤ w1.heap.size := by rw [hw1]; simp
  clear hw1 r0 r1 hb1 hk hq hkids hE
  go_enter Tryz.func6, Tryz.ntmps6
  go_upto_if 18 with fail
  rw [← HW1.out]
  go_wp2_with fail
  refine HC.out.mono ?_
  rintro e w2 ⟨ks, rfl, ts, htl, hto, hks, hb2⟩
  have HB2 := Lib.hid (HB1.out.trans (hb2.mono HB1.out.size))
  have HR2 := Lib.hid ((hb2.block _ (Array.getElem?_eq_some_iff.1 HR1.out).1).trans HR1.out)
  obtain ⟨ka, kn, kc, rfl⟩ : ∃ a n c, ks = .slice a n c := by
    rcases hks.shape with ⟨_, a, c, h⟩ | ⟨_, g, p, c, h⟩
    · exact ⟨_, _, _, h⟩
    · exact ⟨_, _, _, h⟩
  have HKS := Lib.hid hks; have HTO := Lib.hid (And.intro htl hto)
  obtain ⟨y0, y1, y2, y3, y4, y5⟩ := box6 HR2.out (Below.refl _ _)
  have fy : ∀ i, w2.frozen? ⟨w.heap.size + 1, i, none⟩ = false := six_frozen HR2.out
  clear hks htl hto hb2
  go_wp2
  obtain ⟨e0, e1, e2, e3, e4, e5⟩ := box6 (put6_heap HR2.out) (Below.refl _ (put6 w2 (w.heap.size + 1) (.int .i64 8) (.bool false) (.slice none 0 0) (.int .u64 0) (.string ⟨#[]⟩) (.slice ka kn kc)))
  have hch := put6_chg w2 (w.heap.size + 1) (.int .i64 8) (.bool false) (.slice none 0 0) (.int .u64 0) (.string ⟨#[]⟩) (.slice ka kn kc)
  have hks := HKS.out.turn (S' := fun b => w.heap.size ≤ b) (Q := ValB _ (fun b => w.heap.size ≤ b) (deep + 1)) (fun b h => by have := HB1.out.size; omega) hch.size (fun b h hh => hch.block b hh (by omega)) (fun u t h => h.turn (S' := fun b => w.heap.size ≤ b) (fun b h => by have := HB1.out.size; omega) hch.size (fun b h hh => hch.block b hh (by omega)))
  unfold put6 at e0 e1 e2 e3 e4 e5
  exact bodyPost_ret (v := sixV 8 false none 0 0 0 ⟨#[]⟩ ka kn kc) (by simp [results, Tryz.results6, go_sem, e0, e1, e2, e3, e4, e5]) rfl ⟨_, ts, rfl, HTO.out.1, HTO.out.2, hks, Chg.below HB2.out HB2.out.size hch (by omega)⟩

set_option maxRecDepth 100000 in
set_option maxHeartbeats 4000000 in
theorem Clean_set (k n a m c b s a2 m2 c2) (deep f : Nat) (hd : deep ≤ 100) (hk : -9223372036854775808 ≤ k ∧ k ≤ 9223372036854775807) (hq : k % 10 = 9) (hm2 : m2 ≤ 9223372036854775807) (w : World)
    (hkids : m2 = 0 ∨ ∃ g p, a2 = some ⟨g, p, none⟩ ∧ g < w.heap.size ∧ ∀ i, i < m2 → ∃ u, V6 w g (p + i * 6) u ∧ RawAt w f u)
    (hE : ∀ u W, RawAt W f u → Below w.heap.size w W → Calls Tryz.prog 6 #[u, .int .i64 deep] W (CleanIs deep W)) :
    Calls Tryz.prog 6 #[sixV k n a m c b s a2 m2 c2, .int .i64 ((deep : Int) + 1)] w fun e w' => ∃ ks ts, e = .returned (valSix 9 0 ⟨#[]⟩ ks) ∧ ts.length ≤ 8 ∧ SetOk (deep + 1) ts ∧ KidsB w' (fun b => w.heap.size ≤ b) (ValB w' (fun b => w.heap.size ≤ b) (deep + 1)) ks ts ∧ Below w.heap.size w w' := by
  obtain ⟨hm, hq0, hq9⟩ := kind_mod k hk
  rw [hq] at hm hq0 hq9
  obtain ⟨w1, hw1⟩ : ∃ w1, w1 = (w.alloc (sixO k n a m c b s a2 m2 c2)).alloc (sixO 0 false none 0 0 0 ⟨#[]⟩ none 0 0) := ⟨_, rfl⟩
  obtain ⟨r0, r1, hb1, _⟩ := two_new w (sixO k n a m c b s a2 m2 c2) (sixO 0 false none 0 0 0 ⟨#[]⟩ none 0 0)
  rw [← hw1] at r0 r1 hb1
  have HW1 := Lib.hid hw1; have HB1 := Lib.hid hb1; have HR0 := Lib.hid r0; have HR1 := Lib.hid r1
  have HC := Lib.hid (cleanSet_any k n a m c b s a2 m2 c2 deep f hd hm2 w1 (by
    rcases hkids with h | ⟨g, p, e, hg, h⟩
    · exact .inl h
    · exact .inr ⟨g, p, e, Nat.lt_of_lt_of_le hg hb1.size, fun i hi => by
        obtain ⟨u, hu, hr⟩ := h i hi
        exact ⟨u, hu.below hg hb1, hr.below hb1⟩⟩) (fun u W hr hb => hE u W hr (hb1.trans (hb.mono hb1.size))))
  obtain ⟨x0, x1, x2, x3, x4, x5⟩ := box6 r0 (Below.refl _ _)
  obtain ⟨z0, z1, z2, z3, z4, z5⟩ := box6 r1 (Below.refl _ _)
  have hdd : ¬ ((deep : Int) + 1 ≤ 0) := by omega
  have hw1s : w.heap.size + 2 ≤ w1.heap.size := by rw [hw1]; simp
  clear hw1 r0 r1 hb1 hk hq hkids hE
  go_enter Tryz.func6, Tryz.ntmps6
  go_upto_if 18 with fail
  rw [← HW1.out]
  go_wp2_with fail
  refine HC.out.mono ?_
  rintro e w2 ⟨ks, rfl, ts, htl, hto, hks, hb2⟩
  have HB2 := Lib.hid (HB1.out.trans (hb2.mono HB1.out.size))
  have HR2 := Lib.hid ((hb2.block _ (Array.getElem?_eq_some_iff.1 HR1.out).1).trans HR1.out)
  obtain ⟨ka, kn, kc, rfl⟩ : ∃ a n c, ks = .slice a n c := by
    rcases hks.shape with ⟨_, a, c, h⟩ | ⟨_, g, p, c, h⟩
    · exact ⟨_, _, _, h⟩
    · exact ⟨_, _, _, h⟩
  have HKS := Lib.hid hks; have HTO := Lib.hid (And.intro htl hto)
  obtain ⟨y0, y1, y2, y3, y4, y5⟩ := box6 HR2.out (Below.refl _ _)
  have fy : ∀ i, w2.frozen? ⟨w.heap.size + 1, i, none⟩ = false := six_frozen HR2.out
  clear hks htl hto hb2
  go_wp2
  obtain ⟨e0, e1, e2, e3, e4, e5⟩ := box6 (put6_heap HR2.out) (Below.refl _ (put6 w2 (w.heap.size + 1) (.int .i64 9) (.bool false) (.slice none 0 0) (.int .u64 0) (.string ⟨#[]⟩) (.slice ka kn kc)))
  have hch := put6_chg w2 (w.heap.size + 1) (.int .i64 9) (.bool false) (.slice none 0 0) (.int .u64 0) (.string ⟨#[]⟩) (.slice ka kn kc)
  have hks := HKS.out.turn (S' := fun b => w.heap.size ≤ b) (Q := ValB _ (fun b => w.heap.size ≤ b) (deep + 1)) (fun b h => by have := HB1.out.size; omega) hch.size (fun b h hh => hch.block b hh (by omega)) (fun u t h => h.turn (S' := fun b => w.heap.size ≤ b) (fun b h => by have := HB1.out.size; omega) hch.size (fun b h hh => hch.block b hh (by omega)))
  unfold put6 at e0 e1 e2 e3 e4 e5
  exact bodyPost_ret (v := sixV 9 false none 0 0 0 ⟨#[]⟩ ka kn kc) (by simp [results, Tryz.results6, go_sem, e0, e1, e2, e3, e4, e5]) rfl ⟨_, ts, rfl, HTO.out.1, HTO.out.2, hks, Chg.below HB2.out HB2.out.size hch (by omega)⟩

theorem cleanT_flat {d : Nat} {T : Tr} (h : T.kids = []) (h2 : match T with | .lst _ | .tup _ | .dic _ | .set _ => False | _ => True) : CleanT (d + 1) T := by
  cases T <;> first | exact h2.elim | exact ⟨fun k hk => (by rw [h] at hk; cases hk), trivial⟩
theorem Clean_any : ∀ (deep f : Nat) (u : Value) (w : World), deep ≤ 100 → RawAt w f u → Calls Tryz.prog 6 #[u, .int .i64 deep] w (CleanIs deep w)
  | _, 0, _, _, _, h => h.elim
  | deep, f + 1, u, w, hd, h => by
    obtain ⟨k, n, a, m, c, b, s, a2, m2, c2, e, hk, hb, hs, hm, hm2, hmc, hm2c, ⟨V, hV⟩, hkids⟩ := h
    subst e
    have flat : ∀ q, ckind k deep = q → 0 ≤ q → q < 6 → Calls Tryz.prog 6 #[sixV k n a m c b s a2 m2 c2, .int .i64 deep] w (CleanIs deep w) := fun q hq h0 h6 => by
      have hc : q = 0 ∨ q = 1 ∨ q = 2 ∨ q = 3 ∨ q = 4 ∨ q = 5 := by omega
      have hsz : (s.extract 0 (min s.size 60)).size ≤ 60 := by simp; omega
      rcases hc with rfl | rfl | rfl | rfl | rfl | rfl
      · exact (Clean_none k n a m c b s a2 m2 c2 deep hd hk hq w).mono fun e w' ⟨he, hb⟩ => ⟨_, .non, he, rfl, cleanT_flat rfl trivial, hb⟩
      · exact (Clean_bool k n a m c b s a2 m2 c2 deep hd hk hq w).mono fun e w' ⟨he, hb⟩ => ⟨_, .bool _, he, rfl, cleanT_flat rfl trivial, hb⟩
      · exact (Clean_int k n a m c b s a2 m2 c2 deep V hd hk hq w hV hmc hm).mono fun e w' ⟨s', m', V', he, hm', hmag, hb⟩ => ⟨_, .int (n && decide (0 < V')) V', he, ⟨s', m', rfl, hmag, hm', fun h => by simp at h; exact h.2⟩, cleanT_flat rfl trivial, hb⟩
      · refine (Clean_flt k n a m c b s a2 m2 c2 deep hd hk hq w).mono fun e w' ⟨he, hb2⟩ => ⟨_, .flt b.toNat, he, ⟨?_, by omega⟩, cleanT_flat rfl trivial, hb2⟩
        rw [Int.toNat_of_nonneg hb.1]
      · exact (Clean_str k n a m c b s a2 m2 c2 deep hd hk hq hs w).mono fun e w' ⟨he, hb⟩ => ⟨_, .str _, he, ⟨rfl, hsz⟩, cleanT_flat rfl trivial, hb⟩
      · exact (Clean_byt k n a m c b s a2 m2 c2 deep hd hk hq hs w).mono fun e w' ⟨he, hb⟩ => ⟨_, .byt _, he, ⟨rfl, hsz⟩, cleanT_flat rfl trivial, hb⟩
    cases deep with
    | zero =>
      refine flat (ckind k 0) rfl ?_ ?_
      all_goals (unfold ckind; split <;> omega)
    | succ deep =>
      by_cases h6 : k % 10 < 6
      · refine flat (k % 10) ?_ (by omega) h6
        unfold ckind
        rw [if_neg (by omega)]
      · have hE : ∀ u W, RawAt W f u → Below w.heap.size w W → Calls Tryz.prog 6 #[u, .int .i64 deep] W (CleanIs deep W) := fun u W hr _ => Clean_any deep f u W (by omega) hr
        have hc : k % 10 = 6 ∨ k % 10 = 7 ∨ k % 10 = 8 ∨ k % 10 = 9 := by omega
        have hcast : ((deep + 1 : Nat) : Int) = (deep : Int) + 1 := rfl
        rw [hcast]
        rcases hc with hq | hq | hq | hq
        · exact (Clean_seq k n a m c b s a2 m2 c2 deep f (by omega) 6 (.inl rfl) hk hq hm2 w hkids hE).mono fun e w' ⟨ks, ts, he, hl, hct, hk2, hb⟩ => ⟨_, .lst ts, he, ⟨ks, rfl, hk2⟩, ⟨hct, hl⟩, hb⟩
        · exact (Clean_seq k n a m c b s a2 m2 c2 deep f (by omega) 7 (.inr rfl) hk hq hm2 w hkids hE).mono fun e w' ⟨ks, ts, he, hl, hct, hk2, hb⟩ => ⟨_, .tup ts, he, ⟨ks, rfl, hk2⟩, ⟨hct, Nat.le_trans hl (by decide)⟩, hb⟩
        · exact (Clean_dic k n a m c b s a2 m2 c2 deep f (by omega) hk hq hm2 w hkids hE).mono fun e w' ⟨ks, ts, he, hl, hct, hk2, hb⟩ => ⟨_, .dic ts, he, ⟨ks, rfl, hk2⟩, ⟨hct.2.1, hct.1, hl, hct.2.2.1, hct.2.2.2⟩, hb⟩
        · exact (Clean_set k n a m c b s a2 m2 c2 deep f (by omega) hk hq hm2 w hkids hE).mono fun e w' ⟨ks, ts, he, hl, hct, hk2, hb⟩ => ⟨_, .set ts, he, ⟨ks, rfl, hk2⟩, ⟨fun k hk => (hct.1 k hk).1, hl, fun k hk => (hct.1 k hk).2, hct.2⟩, hb⟩
end Go.Proofs.YtjkmppdmejgjiaaGreatDoor

/- Walk: zzFits7. -/
set_option linter.unusedVariables false
set_option linter.unusedSimpArgs false
namespace Go.Proofs.YtjkmppdmejgjiaaGreatDoor
open Go.RowKit
open Num

theorem zzFits7_any (k n a m c b s a2 m2 c2) (w : World) :
    Calls Tryz.prog 5 #[sixV k n a m c b s a2 m2 c2] w fun e w' => ∃ r, e = .returned (.bool r) ∧ Below w.heap.size w w' := by
  by_cases h1 : (2147483647 : Int) < (m : Int)
  · go_enter Tryz.func5, Tryz.ntmps5
    go_wp2
    go_ret
    first | exact ⟨_, rfl, below_al0 _ _⟩ | exact ⟨by first | exact .inl rfl | exact .inr rfl, below_al0 _ _⟩
  · by_cases h2 : (2147483647 : Int) < (s.size : Int)
    · go_enter Tryz.func5, Tryz.ntmps5
      go_wp2
      go_ret
      first | exact ⟨_, rfl, below_al0 _ _⟩ | exact ⟨by first | exact .inl rfl | exact .inr rfl, below_al0 _ _⟩
    · by_cases h3 : (2147483647 : Int) < (m2 : Int)
      · go_enter Tryz.func5, Tryz.ntmps5
        go_wp2
        go_ret
        first | exact ⟨_, rfl, below_al0 _ _⟩ | exact ⟨by first | exact .inl rfl | exact .inr rfl, below_al0 _ _⟩
      · go_enter Tryz.func5, Tryz.ntmps5
        go_wp2
        go_ret
        first | exact ⟨_, rfl, below_al0 _ _⟩ | exact ⟨by first | exact .inl rfl | exact .inr rfl, below_al0 _ _⟩

end Go.Proofs.YtjkmppdmejgjiaaGreatDoor

/- A value of the specification that came in: out of the reader's form into what the walk is told. -/
set_option linter.unusedVariables false
namespace Go.Proofs.YtjkmppdmejgjiaaGreatDoor
open Go.RowKit Go.ChangeShapes Go.WideShapes Go.WideElems
open Num

theorem raw_mono : ∀ {f : Nat} {w : World} {v : Value}, RawAt w f v → RawAt w (f + 1) v
  | 0, _, _, h => h.elim
  | f + 1, w, v, h => by
    obtain ⟨k, n, a, m, c, b, s, a2, m2, c2, e, h1, h2, h3, h4, h5, h6, h7, h8, hk⟩ := h
    refine ⟨k, n, a, m, c, b, s, a2, m2, c2, e, h1, h2, h3, h4, h5, h6, h7, h8, ?_⟩
    rcases hk with hk | ⟨g, p, e2, hg, hk⟩
    · exact .inl hk
    · exact .inr ⟨g, p, e2, hg, fun i hi => by
        obtain ⟨u, hu, hr⟩ := hk i hi
        exact ⟨u, hu, raw_mono hr⟩⟩
theorem list_six {α : Type} {l : List α} (h : l.length = 6) : ∃ a b c d e f, l = [a, b, c, d, e, f] := by
  match l, h with
  | [a, b, c, d, e, f], _ => exact ⟨a, b, c, d, e, f, rfl⟩
theorem addPlain (b o i : Nat) : (⟨b, o, none⟩ : Addr).add i = ⟨b, o + i, none⟩ := by
  unfold Addr.add
  split
  · rename_i h; simp_all
  · rfl
theorem cellsRaw : Tryz.prog.cellsOf 26 = 6 := by kernel_rfl

theorem raw_of {H : Type} {enc : TypeId × Value → H} {W : World} : ∀ (fuel : Nat) (cs : List Value) (x : DataW H × List MemPlace), DataW.trod enc Tryz.prog W 0 (fun _ => true) true fuel 26 cs = some x →
    ∃ k n a m c b s a2 m2 c2, cs = [.int .i64 k, .bool n, .slice a m c, .int .u64 b, .string s, .slice a2 m2 c2] ∧ RawAt W fuel (sixV k n a m c b s a2 m2 c2) := by
  intro fuel
  induction fuel using Nat.strongRecOn with
  | _ fuel ih =>
    intro cs x h
    obtain ⟨xs, n0, rfl, rfl, hl, hlen, hf⟩ := DataW.trod_struct Tryz.underlying26 h
    rw [cellsRaw] at hl
    obtain ⟨c0, c1, c2, c3, c4, c5, rfl⟩ := list_six hl
    obtain ⟨x0, x1, x2, x3, x4, x5, rfl⟩ := list_six (show xs.length = 6 from hlen)
    have z3 : Tryz.prog.cellsOf 3 = 1 := by kernel_rfl
    have z4 : Tryz.prog.cellsOf 4 = 1 := by kernel_rfl
    have z22 : Tryz.prog.cellsOf 22 = 1 := by kernel_rfl
    have z23 : Tryz.prog.cellsOf 23 = 1 := by kernel_rfl
    have z9 : Tryz.prog.cellsOf 9 = 1 := by kernel_rfl
    have z24 : Tryz.prog.cellsOf 24 = 1 := by kernel_rfl
    have h0 : DataW.trod enc Tryz.prog W 0 (fun _ => true) true n0 3 (List.take (Tryz.prog.cellsOf 3) (List.drop 0 [c0, c1, c2, c3, c4, c5])) = some x0 := hf 0 _ rfl
    rw [z3] at h0
    replace h0 : DataW.trod enc Tryz.prog W 0 (fun _ => true) true n0 3 [c0] = some x0 := h0
    have h1 : DataW.trod enc Tryz.prog W 0 (fun _ => true) true n0 4 (List.take (Tryz.prog.cellsOf 4) (List.drop 1 [c0, c1, c2, c3, c4, c5])) = some x1 := hf 1 _ rfl
    rw [z4] at h1
    replace h1 : DataW.trod enc Tryz.prog W 0 (fun _ => true) true n0 4 [c1] = some x1 := h1
    have h2 : DataW.trod enc Tryz.prog W 0 (fun _ => true) true n0 22 (List.take (Tryz.prog.cellsOf 22) (List.drop 2 [c0, c1, c2, c3, c4, c5])) = some x2 := hf 2 _ rfl
    rw [z22] at h2
    replace h2 : DataW.trod enc Tryz.prog W 0 (fun _ => true) true n0 22 [c2] = some x2 := h2
    have h3 : DataW.trod enc Tryz.prog W 0 (fun _ => true) true n0 23 (List.take (Tryz.prog.cellsOf 23) (List.drop 3 [c0, c1, c2, c3, c4, c5])) = some x3 := hf 3 _ rfl
    rw [z23] at h3
    replace h3 : DataW.trod enc Tryz.prog W 0 (fun _ => true) true n0 23 [c3] = some x3 := h3
    have h4 : DataW.trod enc Tryz.prog W 0 (fun _ => true) true n0 9 (List.take (Tryz.prog.cellsOf 9) (List.drop 4 [c0, c1, c2, c3, c4, c5])) = some x4 := hf 4 _ rfl
    rw [z9] at h4
    replace h4 : DataW.trod enc Tryz.prog W 0 (fun _ => true) true n0 9 [c4] = some x4 := h4
    have h5 : DataW.trod enc Tryz.prog W 0 (fun _ => true) true n0 24 (List.take (Tryz.prog.cellsOf 24) (List.drop 5 [c0, c1, c2, c3, c4, c5])) = some x5 := hf 5 _ rfl
    rw [z24] at h5
    replace h5 : DataW.trod enc Tryz.prog W 0 (fun _ => true) true n0 24 [c5] = some x5 := h5
    obtain ⟨k, e0, _, wk⟩ := DataW.trod_int Tryz.underlying3 h0
    obtain ⟨n, e1, _⟩ := DataW.trod_bool Tryz.underlying4 h1
    obtain ⟨b, e3, _, wb⟩ := DataW.trod_int Tryz.underlying23 h3
    obtain ⟨s, e4, _, ws⟩ := DataW.trod_string Tryz.underlying9 h4
    injection e0 with e0; injection e1 with e1; injection e3 with e3; injection e4 with e4
    subst e0; subst e1; subst e3; subst e4
    have hmax : maxLen = 9223372036854775807 := rfl
    have wk' : (-9223372036854775808 : Int) ≤ k ∧ k ≤ 9223372036854775807 := bounds_i64 wk
    have wb' : (0 : Int) ≤ b ∧ b < 18446744073709551616 := by
      have := bounds_u64 wb
      omega
    obtain ⟨a, m, c, e2, hmc, hmm, hV⟩ : ∃ a m c, c2 = .slice a m c ∧ m ≤ c ∧ m ≤ maxLen ∧ ∃ V, BytAt W (.slice a m c) m V := by
      rcases open_ints Tryz.underlying22 Tryz.underlying5 (by kernel_rfl) h2 with ⟨hcs, _⟩ | ⟨x, l, c, zs, hcs, _, hl, hm, hz, _, hcell, hwz⟩
      · injection hcs with hcs
        exact ⟨none, 0, 0, hcs, Nat.le_refl _, by omega, 0, by simp, .inl ⟨rfl, none, 0, rfl⟩⟩
      · injection hcs with hcs
        exact ⟨some x, l, c, hcs, hl, by omega, bytAt_of hl (by simpa using hz) hcell hwz⟩
    subst e2
    obtain ⟨a2, m2, c2, e5, hmc2, hmm2, hkk⟩ : ∃ a2 m2 c2, c5 = .slice a2 m2 c2 ∧ m2 ≤ c2 ∧ m2 ≤ maxLen ∧ (m2 = 0 ∨ ∃ g p, a2 = some ⟨g, p, none⟩ ∧ g < W.heap.size ∧ ∀ i, i < m2 → ∃ u, V6 W g (p + i * 6) u ∧ RawAt W n0 u) := by
      rcases DataW.trod_slice Tryz.underlying24 h5 with ⟨hcs, _⟩ | ⟨ad, len, cap, elems, rest, n1, hn, hcs, _, _, hl, hm, hlen, hel, _, _⟩
      · injection hcs with hcs
        exact ⟨none, 0, 0, hcs, Nat.le_refl _, by omega, .inl rfl⟩
      · injection hcs with hcs
        refine ⟨some ad, len, cap, hcs, hl, by omega, ?_⟩
        by_cases h0 : len = 0
        · exact .inl h0
        · refine .inr ?_
          have key : ∀ i, i < len → ∃ cs y, W.cells? 0 (ad.add (i * 6)) 6 = some cs ∧ DataW.trod enc Tryz.prog W 0 (fun _ => true) true n1 26 cs = some y := fun i hi => by
            have := hel i hi
            rw [List.getElem?_eq_getElem (by omega), cellsRaw] at this
            cases hc : W.cells? 0 (ad.add (i * 6)) 6 with
            | none => rw [hc] at this; cases this
            | some cs => rw [hc] at this; exact ⟨cs, _, rfl, this⟩
          obtain ⟨g, p, spot⟩ := ad
          have hspot : spot = none ∧ g < W.heap.size := by
            obtain ⟨cs, y, hc, hy⟩ := key 0 (by omega)
            obtain ⟨_, hl6, hcell⟩ := World.cells?_some hc
            have h := hcell 0 (by omega)
            rw [List.getElem?_eq_getElem (by omega)] at h
            have hs := World.cell?_spot h
            refine ⟨by simpa [Addr.add] using hs, ?_⟩
            have := World.block_lt_of_cell? W _ h
            simpa [Addr.add] using this
          obtain ⟨rfl, hg⟩ := hspot
          refine ⟨g, p, rfl, hg, fun i hi => ?_⟩
          obtain ⟨cs, y, hc, hy⟩ := key i hi
          obtain ⟨k', n', a', m', c', b', s', d', o', f', rfl, hr⟩ := ih n1 (by omega) cs y hy
          obtain ⟨_, _, hcell⟩ := World.cells?_some hc
          refine ⟨sixV k' n' a' m' c' b' s' d' o' f', ⟨_, _, _, _, _, _, rfl, ?_, ?_, ?_, ?_, ?_, ?_⟩, by rw [hn]; exact raw_mono hr⟩
          · have h := hcell 0 (by omega); rw [addPlain, addPlain] at h; exact h
          · have h := hcell 1 (by omega); rw [addPlain, addPlain] at h; exact h
          · have h := hcell 2 (by omega); rw [addPlain, addPlain] at h; exact h
          · have h := hcell 3 (by omega); rw [addPlain, addPlain] at h; exact h
          · have h := hcell 4 (by omega); rw [addPlain, addPlain] at h; exact h
          · have h := hcell 5 (by omega); rw [addPlain, addPlain] at h; exact h
    subst e5
    exact ⟨k, n, a, m, c, b, s, a2, m2, c2, rfl, k, n, a, m, c, b, s, a2, m2, c2, rfl, wk', wb', by omega, by omega, by omega, hmc, hmc2, hV, hkk⟩
end Go.Proofs.YtjkmppdmejgjiaaGreatDoor

/- Walks: spec.within; spec.Equal of sets. -/
set_option linter.unusedVariables false
set_option linter.unusedSimpArgs false
namespace Go.Proofs.YtjkmppdmejgjiaaGreatDoor
open Go.RowKit
open Num

set_option maxRecDepth 100000 in
set_option maxHeartbeats 4000000 in
theorem within_any (P : Value → Tr → Prop) (F : Tr → Bool) (kk kk' : Int) (ks : Value) (l : List Tr) (ta : Option Addr) (tn tc : Nat) (hl : l.length ≤ 1000000) (w : World) (hs : KidsAt w P ks l)
    (hP6 : ∀ u T, T ∈ l → P u T → ∃ k n a m c b s a2 m2 c2, u = sixV k n a m c b s a2 m2 c2)
    (hF : ∀ u x W, x ∈ l → P u x → Below w.heap.size w W → Calls Tryz.prog 24 #[.slice ta tn tc, .int .i64 1, u] W fun e w' => ∃ r : Int, e = .returned (.int .i64 r) ∧ ((r < 0 ∧ F x = false) ∨ (¬ r < 0 ∧ F x = true)) ∧ Below W.heap.size W w') :
    Calls Tryz.prog 25 #[valSix kk 0 ⟨#[]⟩ ks, valSix kk' 0 ⟨#[]⟩ (.slice ta tn tc)] w fun e w' => e = .returned (.bool (l.all F)) ∧ Below w.heap.size w w' := by
  obtain ⟨sa, sc, rfl⟩ := hs.shape
  obtain ⟨w1, hw1⟩ : ∃ w1, w1 = (w.alloc (sixO kk false none 0 0 0 ⟨#[]⟩ sa l.length sc)).alloc (sixO kk' false none 0 0 0 ⟨#[]⟩ ta tn tc) := ⟨_, rfl⟩
  obtain ⟨r0, r1, hb1, _⟩ := two_new w (sixO kk false none 0 0 0 ⟨#[]⟩ sa l.length sc) (sixO kk' false none 0 0 0 ⟨#[]⟩ ta tn tc)
  rw [← hw1] at r0 r1 hb1
  have HW1 := Lib.hid hw1; have HB1 := Lib.hid hb1; have HR0 := Lib.hid r0; have HR1 := Lib.hid r1
  have HPP := Lib.hid (fun u x W (hx : x ∈ l) (hu : P u x) (hb : Below w1.heap.size w1 W) => hF u x W hx hu (HB1.out.trans (hb.mono HB1.out.size)))
  obtain ⟨R, hR⟩ : ∃ R, R = l.all F := ⟨_, rfl⟩
  rw [← hR]
  have HR := Lib.hid hR
  obtain ⟨n, hnn⟩ : ∃ n, n = l.length := ⟨_, rfl⟩
  have HNN := Lib.hid hnn
  have HS := Lib.hid hs; have HP6 := Lib.hid hP6
  rw [← hnn] at hl HR0 HW1 ⊢
  clear hw1 r0 r1 hb1 hF hR hnn hs hP6
  go_enter Tryz.func25, Tryz.ntmps25
  go_wp2_with fail
  rw [← HW1.out]
  go_loopw [5] (fun i wr => ∃ k : Nat, k ≤ n ∧ i = .int .i64 k ∧ Below w1.heap.size w1 wr ∧ Hid (∀ j (a : j < l.length), j < k → F l[j] = true)) (fun i _ => n - (intOf i).toNat)
  case atStart => exact ⟨0, by omega, rfl, Below.refl _ _, Lib.hid (fun j _ h => absurd h (by omega))⟩
  case round =>
    obtain ⟨k, hk, rfl, hb, HA⟩ := hrel
    have HB := Lib.hid hb; clear hb
    obtain ⟨y0, y1, y2, y3, y4, y5⟩ := box6 HR0.out HB.out
    obtain ⟨z0, z1, z2, z3, z4, z5⟩ := box6 HR1.out HB.out
    by_cases he : k = n
    · subst he
      have hRt : R = true := by
        rw [HR.out, List.all_eq_true]
        intro x hx
        obtain ⟨i, hi, rfl⟩ := List.getElem_of_mem hx
        exact HA.out i hi (by have := HNN.out; omega)
      subst hRt
      go_wp2
      go_ret
      exact ⟨by first | rfl | simp, HB1.out.trans (HB.out.mono HB1.out.size)⟩
    · have hlt : (k : Int) < (n : Int) := by omega
      have hkl : k < l.length := by have := HNN.out; omega
      rcases HS.out with ⟨h0, _⟩ | ⟨h0, g, p, c, e, hc, hc2, hg, hkk⟩
      · rw [h0] at hkl; simp at hkl
      · injection e with q1 _ q3
        subst q1; subst q3
        have hg1 : g < w1.heap.size := Nat.lt_of_lt_of_le hg HB1.out.size
        obtain ⟨k1, n1, a1, m1, c1, b1, s1, d1, o1, f1, i0, i1, i2, i3, i4, i5, hpu⟩ := KidsAt.kid (c := sc) (n := 0) hkk HP6.out k hkl
        obtain ⟨i0, i1, i2, i3, i4, i5⟩ := (Cells6.below ⟨i0, i1, i2, i3, i4, i5⟩ HB1.out hg).below HB.out hg1
        have HC := Lib.hid (HPP.out _ l[k] wr.drew (List.getElem_mem hkl) hpu HB.out.drew)
        have HBC := Lib.hid HB.out.drew
        obtain ⟨q, hq⟩ : ∃ q, q = F l[k] := ⟨_, rfl⟩
        rw [← hq] at HC
        have HQ := Lib.hid hq
        have HKL := Lib.hid hkl
        clear hq hpu hkk hc hc2 hg hg1 h0
        go_wp2
        go_region_law (go_simp; go_at_call 24; (with_reducible refine HC.out.mono ?_); rintro e w5 ⟨r, rfl, hr, hb5⟩; have HB5 := Lib.hid (HBC.out.trans (hb5.mono HBC.out.size)); have HRR := Lib.hid hr; clear hb5 hr)
        all_goals
          rcases HRR.out with ⟨hr, hf⟩ | ⟨hr, hf⟩
          · have hRf : R = false := by
              rw [HR.out]
              cases ha : l.all F with
              | false => rfl
              | true =>
                have := (List.all_eq_true.1 ha) _ (List.getElem_mem HKL.out)
                rw [← HQ.out, hf] at this
                cases this
            subst hRf
            clear hf
            go_wp2
            go_ret
            exact ⟨by first | rfl | simp, HB1.out.trans (HB5.out.mono HB1.out.size)⟩
          · have hr2 : ¬ (r < 0) := by omega
            have HQ2 := Lib.hid (HQ.out.symm.trans hf)
            clear hf
            go_wp2
            go_round
            case rel => exact ⟨k + 1, by omega, by go_num, HB5.out, Lib.hid (fun j a hj => by
                by_cases e : j = k
                · subst e; exact HQ2.out
                · exact HA.out j a (by omega))⟩
            case measure => simp [intOf]; omega

set_option maxRecDepth 100000 in
set_option maxHeartbeats 4000000 in
theorem SEq_set (sa ta : Option Addr) (n m sc tc : Nat) (R : Bool) (w : World)
    (hW : ∀ W, Below w.heap.size w W → n = m → Calls Tryz.prog 25 #[valSix 9 0 ⟨#[]⟩ (.slice sa n sc), valSix 9 0 ⟨#[]⟩ (.slice ta m tc)] W fun e w' => e = .returned (.bool R) ∧ Below W.heap.size W w') :
    Calls Tryz.prog 8 #[valSix 9 0 ⟨#[]⟩ (.slice sa n sc), valSix 9 0 ⟨#[]⟩ (.slice ta m tc)] w fun e w' => e = .returned (.bool (n == m && R)) ∧ Below w.heap.size w w' := by
  obtain ⟨w1, hw1⟩ : ∃ w1, w1 = (w.alloc (sixO 9 false none 0 0 0 ⟨#[]⟩ sa n sc)).alloc (sixO 9 false none 0 0 0 ⟨#[]⟩ ta m tc) := ⟨_, rfl⟩
  obtain ⟨r0, r1, hb1, _⟩ := two_new w (sixO 9 false none 0 0 0 ⟨#[]⟩ sa n sc) (sixO 9 false none 0 0 0 ⟨#[]⟩ ta m tc)
  rw [← hw1] at r0 r1 hb1
  have HN1 := Lib.hid (fun W => snumber_no 9 false none 0 0 0 ⟨#[]⟩ sa n sc ⟨by omega, by omega⟩ W)
  have HW1 := Lib.hid hw1; have HB1 := Lib.hid hb1; have HR0 := Lib.hid r0; have HR1 := Lib.hid r1
  have HWW := Lib.hid hW
  obtain ⟨x0, x1, x2, x3, x4, x5⟩ := box6 r0 (Below.refl _ _)
  clear hw1 r0 r1 hb1 hW
  obtain ⟨Q, hQ⟩ : ∃ Q, Q = (n == m && R) := ⟨_, rfl⟩
  rw [← hQ]
  have HQ := Lib.hid hQ
  clear hQ
  by_cases hn : n = m
  · have hni : ((n : Int) != (m : Int)) = false := by simp; omega
    have HN := Lib.hid hn
    obtain rfl : Q = R := by rw [HQ.out, hn]; simp
    clear hn
    go_enter Tryz.func8, Tryz.ntmps8
    go_wp2_with fail
    rw [← HW1.out]
    go_wp2_with fail
    refine (HN1.out _).mono ?_
    rintro e w2 ⟨rfl, hb2⟩
    have HB2 := Lib.hid (HB1.out.trans (hb2.mono HB1.out.size))
    obtain ⟨y0, y1, y2, y3, y4, y5⟩ := box6 HR0.out hb2
    obtain ⟨z0, z1, z2, z3, z4, z5⟩ := box6 HR1.out hb2
    have HC := Lib.hid (HWW.out w2 HB2.out HN.out)
    clear hb2
    go_wp2_with fail
    refine HC.out.mono ?_
    rintro e w3 ⟨rfl, hb3⟩
    have HB3 := Lib.hid (HB2.out.trans (hb3.mono HB2.out.size))
    clear hb3
    go_wp2
    go_ret
    exact ⟨by first | rfl | simp, HB3.out⟩
  · have hni : ((n : Int) != (m : Int)) = true := by simp; omega
    obtain rfl : Q = false := by rw [HQ.out]; simp [hn]
    clear hn
    go_enter Tryz.func8, Tryz.ntmps8
    go_wp2_with fail
    rw [← HW1.out]
    go_wp2_with fail
    refine (HN1.out _).mono ?_
    rintro e w2 ⟨rfl, hb2⟩
    have HB2 := Lib.hid (HB1.out.trans (hb2.mono HB1.out.size))
    obtain ⟨y0, y1, y2, y3, y4, y5⟩ := box6 HR0.out hb2
    obtain ⟨z0, z1, z2, z3, z4, z5⟩ := box6 HR1.out hb2
    clear hb2
    go_wp2
    go_ret
    exact ⟨by first | rfl | simp, HB2.out⟩
end Go.Proofs.YtjkmppdmejgjiaaGreatDoor

/- Walks: a key is looked up in a hash table. -/
set_option linter.unusedVariables false
set_option linter.unusedSimpArgs false
namespace Go.Proofs.YtjkmppdmejgjiaaGreatDoor
open Go.RowKit
open Num

theorem ht_val (b n : Nat) (H : Nat → Nat) (K V : Nat → Value) (i : Nat) (hi : i < 8) (h : 8 - n ≤ i) : htCell b true n H K V (1 + i * 5 + 2) = V (7 - i) := by
  rcases (show i = 0 ∨ i = 1 ∨ i = 2 ∨ i = 3 ∨ i = 4 ∨ i = 5 ∨ i = 6 ∨ i = 7 by omega) with rfl | rfl | rfl | rfl | rfl | rfl | rfl | rfl <;>
    · show htEnt b n H K V _ _ = _
      unfold htEnt
      rw [if_pos h]
      rfl
/-- what a look-up tells -/
def Looked (n : Nat) (H : Nat → Nat) (V : Nat → Value) (h : Nat) (f : Nat → Bool) (e : Ending) : Prop :=
  (∃ i, i < n ∧ H i = h ∧ f i = true ∧ e = .returned (.tuple #[V i, .bool true, .nilIface])) ∨
  ((∀ i, i < n → H i = h → f i = false) ∧ e = .returned (.tuple #[.iface 99 (.int .u8 0), .bool false, .nilIface]))

set_option maxRecDepth 100000 in
set_option maxHeartbeats 4000000 in
theorem lookup_any (t b n : Nat) (laid : Bool) (H : Nat → Nat) (K V : Nat → Value) (f : Nat → Bool) (k : Value) (h0 : Nat) (w : World) (hn : n ≤ 8) (hl : laid = true ∨ n = 0) (hH : ∀ i, i < n → 0 < H i ∧ H i < 4294967296) (hh : h0 < 4294967296)
    (hr : Row w b t 47 (htCell b laid n H K V)) (hk : ∀ W, Below w.heap.size w W → HashIs k W h0) (hV : ∀ i, i < n → ∃ tv uv, V i = .iface tv uv)
    (he : ∀ i, i < n → ∀ W, Below w.heap.size w W → H i = nzH h0 → Calls Tryz.prog 93 #[k, K i] W fun e w' => e = .returned (.tuple #[.bool (f i), .nilIface]) ∧ Below W.heap.size W w') :
    Calls Tryz.prog 233 #[.pointer (some ⟨b, 0, none⟩), k] w fun e w' => Looked n H V (nzH h0) f e ∧ Below w.heap.size w w' := by
  obtain ⟨tk, uk, fk, rfl, hm, hen, hk2⟩ := HashIs.fix hk (Below.refl _ w)
  have HR := Lib.hid hr; have HE := Lib.hid he; have HH := Lib.hid hH; have HL := Lib.hid hl; have HV := Lib.hid hV; have HLT := Lib.hid hr.lt
  have HC := Lib.hid (hk2 w (Below.refl _ _))
  obtain ⟨sa, sn, hS0, hS⟩ : ∃ sa sn, (∀ W, Below w.heap.size w W → W.cell? ⟨b, 0, none⟩ = some (.slice sa sn sn)) ∧ ∀ W : World, (binOp .eql 113 (.slice sa sn sn) (.slice none 0 0)).run Tryz.prog W = .ok (.bool (!laid)) W := by
    cases laid
    · exact ⟨none, 0, fun W hb => (hr.below hb hr.lt).cell (i := 0) (by omega), fun W => tab_nil W⟩
    · exact ⟨some ⟨b, 1, none⟩, 1, fun W hb => (hr.below hb hr.lt).cell (i := 0) (by omega), fun W => tab_some b W⟩
  have HS0 := Lib.hid hS0
  clear hr hk hk2 he hH hl hV hS0
  go_enter Tryz.func233, Tryz.ntmps233
  go_wp2_with fail
  refine HC.out.mono ?_
  rintro e w3 ⟨rfl, hb3⟩
  have c0 := HS0.out w3 hb3
  have HB3 := Lib.hid hb3
  clear hb3
  go_upto_if 22 with fail
  go_cut [7] from 4 to 22 (fun h W => h = .int .u32 (nzH h0) ∧ w3 = W)
  case first =>
    by_cases hz : h0 = 0
    · subst hz
      go_wp2
      go_meet
      case rel => exact ⟨rfl, rfl⟩
    · have hz1 : ((h0 : Int) == 0) = false := by simp; omega
      have hz2 : nzH h0 = h0 := by unfold nzH; rw [if_neg hz]
      go_wp2
      go_meet
      case rel => exact ⟨by rw [hz2], rfl⟩
  case rest =>
    obtain ⟨rfl, rfl⟩ := hcut
    obtain ⟨h, hhd⟩ : ∃ h, h = nzH h0 := ⟨_, rfl⟩
    have hpos : 0 < h := by rw [hhd]; exact nzH_pos _
    have hlt : h < 4294967296 := by rw [hhd]; exact nzH_lt hh
    have HHD := Lib.hid hhd
    rw [← hhd] at HE ⊢
    clear hh hhd hm hen HC
    cases laid
    · obtain rfl : n = 0 := by rcases HL.out with h | h; cases h; exact h
      go_wp2
      exact bodyPost_ret (v := .tuple #[.iface 99 (.int .u8 0), .bool false, .nilIface]) (by simp [results, Tryz.results233, go_sem]) rfl ⟨.inr ⟨fun i hi => absurd hi (by omega), rfl⟩, HB3.out⟩
    · have c0 : w3.cell? ⟨b, 0, none⟩ = some (.slice (some ⟨b, 1, none⟩) 1 1) := (HR.out.below HB3.out HLT.out).cell (i := 0) (by omega)
      obtain ⟨rfl, rfl⟩ : sa = some ⟨b, 1, none⟩ ∧ sn = 1 := by
        have h := HS0.out w3 HB3.out
        rw [c0] at h
        injection h with h
        injection h with h1 h2
        exact ⟨h1.symm, h2.symm⟩
      have hand : bits .and .u32 (h : Int) 0 = 0 := by simp [bits]; decide
      clear HS0
      go_wp2
      go_quiet (fail)
      obtain ⟨w4, hw4⟩ : ∃ w4, w4 = w3.drewN nq := ⟨_, rfl⟩
      rw [← hw4]
      have HB4 := Lib.hid (show Below w.heap.size w w4 by rw [hw4]; exact ⟨HB3.out.os, HB3.out.tape, HB3.out.output, HB3.out.size, HB3.out.block⟩)
      clear hw4 c0 hand HB3
      go_wp2
      refine wp_loop_rounds 2 ?_
      rw [rounds_succ]
      go_wp2
      go_loopw [49] (fun i wr => ∃ j : Nat, j ≤ 8 ∧ i = .int .i64 j ∧ Below w.heap.size w wr ∧ ∀ i, i < n → 7 < i + j → H i = h → f i = false) (fun i _ => 8 - (intOf i).toNat)
      case atStart => exact ⟨0, by omega, rfl, HB4.out, fun i hi h7 => absurd h7 (by omega)⟩
      case round =>
        obtain ⟨j, hj, rfl, hbr, hno⟩ := hrel
        have HBR := Lib.hid hbr; have HNO := Lib.hid hno
        have HRR := Lib.hid (HR.out.below hbr HLT.out)
        clear hbr hno HB4
        by_cases h8 : j = 8
        · subst h8
          have d41 : wr.cell? ⟨b, 1 + 40, none⟩ = some (.pointer none) := HRR.out.cell (i := 41) (by omega)
          go_wp2
          rw [rounds_succ]
          go_wp2
          exact bodyPost_ret (v := .tuple #[.iface 99 (.int .u8 0), .bool false, .nilIface]) (by simp [results, Tryz.results233, go_sem]) rfl ⟨.inr ⟨fun i hi hh => HNO.out i hi (by omega) (hh.trans HHD.out.symm), rfl⟩, HBR.out⟩
        · have hj8 : (j : Int) < 8 := by omega
          have d0 := HRR.out.cell (i := 1 + j * 5) (by omega)
          rw [ht_hash b n H K V j (by omega)] at d0
          by_cases hA : j < 8 - n
          · rw [if_neg (by omega)] at d0
            have hne : ((0 : Int) == (h : Int)) = false := by simp; omega
            go_wp2
            go_round
            case rel => exact ⟨j + 1, by omega, by go_num, HBR.out, fun i hi h7 => HNO.out i hi (by omega)⟩
            case measure => simp [intOf]; omega
          · rw [if_pos (by omega)] at d0
            obtain ⟨y, hy⟩ : ∃ y, y = H (7 - j) := ⟨_, rfl⟩
            rw [← hy] at d0
            by_cases hq : y = h
            · have HEQ := Lib.hid (HE.out (7 - j) (by omega) wr HBR.out (by rw [← hy, hq]))
              have d1 := HRR.out.cell (i := 1 + j * 5 + 1) (by omega)
              rw [ht_key b n H K V j (by omega) (by omega)] at d1
              obtain ⟨Kj, hKj⟩ : ∃ Kj, Kj = K (7 - j) := ⟨_, rfl⟩
              rw [← hKj] at HEQ d1
              obtain ⟨tv, uv, hv⟩ := HV.out (7 - j) (by omega)
              have HVJ := Lib.hid hv
              have HD2 := Lib.hid (show ∀ W, Below w.heap.size w W → W.cell? ⟨b, 1 + j * 5 + 2, none⟩ = some (.iface tv uv) from fun W hb => by
                have := (HR.out.below hb HLT.out).cell (i := 1 + j * 5 + 2) (by omega)
                rwa [ht_val b n H K V j (by omega) (by omega), hv] at this)
              have HYH := Lib.hid (hy.symm.trans hq)
              have HJN := Lib.hid (show 7 - j < n by omega)
              obtain ⟨r, hr⟩ : ∃ r, r = f (7 - j) := ⟨_, rfl⟩
              rw [← hr] at HEQ
              have HRJ := Lib.hid hr
              clear hy hKj hv hr
              subst hq
              go_wp2_with fail
              refine HEQ.out.mono ?_
              rintro e w5 ⟨rfl, hb5⟩
              have HB5 := Lib.hid (HBR.out.trans (hb5.mono HBR.out.size))
              have d2 := HD2.out w5 HB5.out
              clear hb5
              cases r
              · go_wp2
                go_round
                case rel => exact ⟨j + 1, by omega, by go_num, HB5.out, fun i hi h7 hh => by
                  by_cases e : i = 7 - j
                  · rw [e]; exact HRJ.out.symm
                  · exact HNO.out i hi (by omega) hh⟩
                case measure => simp [intOf]; omega
              · go_wp2
                exact bodyPost_ret (v := .tuple #[.iface tv uv, .bool true, .nilIface]) (by simp [results, Tryz.results233, go_sem]) rfl ⟨.inl ⟨7 - j, HJN.out, HYH.out.trans HHD.out, HRJ.out.symm, by rw [HVJ.out]⟩, HB5.out⟩
            · have hne : ((y : Int) == (h : Int)) = false := by simp; omega
              have HNH := Lib.hid (show H (7 - j) ≠ h from fun e => hq (hy.trans e))
              clear hy hq
              go_wp2
              go_round
              case rel => exact ⟨j + 1, by omega, by go_num, HBR.out, fun i hi h7 hh => by
                by_cases e : i = 7 - j
                · rw [e] at hh; exact absurd hh HNH.out
                · exact HNO.out i hi (by omega) hh⟩
              case measure => simp [intOf]; omega
end Go.Proofs.YtjkmppdmejgjiaaGreatDoor
