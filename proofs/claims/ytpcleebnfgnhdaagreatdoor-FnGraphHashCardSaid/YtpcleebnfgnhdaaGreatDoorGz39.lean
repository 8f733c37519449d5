import Derived.Test.YtpcleebnfgnhdaaGreatDoorGz38
import Derived.Test.YtpcleebnfgnhdaaGreatDoorGz33
import Derived.Test.YtpcleebnfgnhdaaGreatDoorGz36
import Derived.Test.YtpcleebnfgnhdaaGreatDoorGz12
/- Walks: Clean of dicts and sets; of any value. -/
set_option linter.unusedVariables false
set_option linter.unusedSimpArgs false
namespace Go.Proofs.YtpcleebnfgnhdaaGreatDoor
open Go.RowKit
open Num

set_option maxRecDepth 100000 in
set_option maxHeartbeats 4000000 in
theorem Clean_dic (k n a m c b s a2 m2 c2) (deep f : Nat) (hd : deep ≤ 100) (hk : -9223372036854775808 ≤ k ∧ k ≤ 9223372036854775807) (hq : k % 10 = 8) (hm2 : m2 ≤ 9223372036854775807) (w : World)
    (hkids : m2 = 0 ∨ ∃ g p, a2 = some ⟨g, p, none⟩ ∧ g < w.heap.size ∧ ∀ i, i < m2 → ∃ u, V6 w g (p + i * 6) u ∧ RawAt w f u)
    (hE : ∀ u W, RawAt W f u → Below w.heap.size w W → Calls Tryz.prog 23 #[u, .int .i64 deep] W (CleanIs deep W)) :
    Calls Tryz.prog 23 #[sixV k n a m c b s a2 m2 c2, .int .i64 ((deep : Int) + 1)] w fun e w' => ∃ ks ts, e = .returned (valSix 8 0 ⟨#[]⟩ ks) ∧ ts.length ≤ 16 ∧ DictOk (deep + 1) ts ∧ KidsB w' (fun b => w.heap.size ≤ b) (ValB w' (fun b => w.heap.size ≤ b) (deep + 1)) ks ts ∧ Below w.heap.size w w' := by
  obtain ⟨hm, hq0, hq9⟩ := kind_mod k hk
  rw [hq] at hm hq0 hq9
  obtain ⟨w1, hw1⟩ : ∃ w1, w1 = (w.alloc (sixO k n a m c b s a2 m2 c2)).alloc (sixO 0 false none 0 0 0 ⟨#[]⟩ none 0 0) := ⟨_, rfl⟩
  obtain ⟨r0, r1, hb1, _⟩ := two_new w (sixO k n a m c b s a2 m2 c2) (sixO 0 false none 0 0 0 ⟨#[]⟩ none 0 0)
  rw [← hw1] at r0 r1 hb1
  have HW1 := Lib.hid hw1; have HB1 := Lib.hid hb1; have HR0 := Lib.hid r0; have HR1 := Lib.hid r1
  have HC := Lib.hid (cleanDict_any k n a m c b s a2 m2 c2 deep f hd hm2 w1 (by
    rcases hkids with h | ⟨g, p, e, hg, h⟩
    · exact .inl h
    · exact .inr ⟨g, p, e, Nat.lt_of_lt_of_le hg hb1.size, fun i hi => by
        obtain ⟨u, hu, hr⟩ := h i hi
        exact ⟨u, hu.below hg hb1, hr.below hb1⟩⟩) (fun u W hr hb => hE u W hr (hb1.trans (hb.mono hb1.size))))
  obtain ⟨x0, x1, x2, x3, x4, x5⟩ := box6 r0 (Below.refl _ _)
  obtain ⟨z0, z1, z2, z3, z4, z5⟩ := box6 r1 (Below.refl _ _)
  have hdd : ¬ ((deep : Int) + 1 ≤ 0) := by omega
  have hw1s : w.heap.size + 2 ≤ w1.heap.size := by rw [hw1]; simp
  clear hw1 r0 r1 hb1 hk hq hkids hE
  go_enter Tryz.func23, Tryz.ntmps23
  go_upto_if 18 with fail
  rw [← HW1.out]
  go_wp2_with fail
  refine HC.out.mono ?_
  rintro e w2 ⟨ks, rfl, ts, htl, hto, hks, hb2⟩
  have HB2 := Lib.hid (HB1.out.trans (hb2.mono HB1.out.size))
  have HR2 := Lib.hid ((hb2.block _ (Array.getElem?_eq_some_iff.1 HR1.out).1).trans HR1.out)
  obtain ⟨ka, kn, kc, rfl⟩ : ∃ a n c, ks = .slice a n c := by
    rcases hks.shape with ⟨_, a, c, h⟩ | ⟨_, g, p, c, h⟩
    · exact ⟨_, _, _, h⟩
    · exact ⟨_, _, _, h⟩
  have HKS := Lib.hid hks; have HTO := Lib.hid (And.intro htl hto)
  obtain ⟨y0, y1, y2, y3, y4, y5⟩ := box6 HR2.out (Below.refl _ _)
  have fy : ∀ i, w2.frozen? ⟨w.heap.size + 1, i, none⟩ = false := six_frozen HR2.out
  clear hks htl hto hb2
  go_wp2
  obtain ⟨e0, e1, e2, e3, e4, e5⟩ := box6 (put6_heap HR2.out) (Below.refl _ (put6 w2 (w.heap.size + 1) (.int .i64 8) (.bool false) (.slice none 0 0) (.int .u64 0) (.string ⟨#[]⟩) (.slice ka kn kc)))
  have hch := put6_chg w2 (w.heap.size + 1) (.int .i64 8) (.bool false) (.slice none 0 0) (.int .u64 0) (.string ⟨#[]⟩) (.slice ka kn kc)
  have hks := HKS.out.turn (S' := fun b => w.heap.size ≤ b) (Q := ValB _ (fun b => w.heap.size ≤ b) (deep + 1)) (fun b h => by have := HB1.out.size; omega) hch.size (fun b h hh => hch.block b hh (by omega)) (fun u t h => h.turn (S' := fun b => w.heap.size ≤ b) (fun b h => by have := HB1.out.size; omega) hch.size (fun b h hh => hch.block b hh (by omega)))
  unfold put6 at e0 e1 e2 e3 e4 e5
  exact bodyPost_ret (v := sixV 8 false none 0 0 0 ⟨#[]⟩ ka kn kc) (by simp [results, Tryz.results23, go_sem, e0, e1, e2, e3, e4, e5]) rfl ⟨_, ts, rfl, HTO.out.1, HTO.out.2, hks, Chg.below HB2.out HB2.out.size hch (by omega)⟩

set_option maxRecDepth 100000 in
set_option maxHeartbeats 4000000 in
theorem Clean_set (k n a m c b s a2 m2 c2) (deep f : Nat) (hd : deep ≤ 100) (hk : -9223372036854775808 ≤ k ∧ k ≤ 9223372036854775807) (hq : k % 10 = 9) (hm2 : m2 ≤ 9223372036854775807) (w : World)
    (hkids : m2 = 0 ∨ ∃ g p, a2 = some ⟨g, p, none⟩ ∧ g < w.heap.size ∧ ∀ i, i < m2 → ∃ u, V6 w g (p + i * 6) u ∧ RawAt w f u)
    (hE : ∀ u W, RawAt W f u → Below w.heap.size w W → Calls Tryz.prog 23 #[u, .int .i64 deep] W (CleanIs deep W)) :
    Calls Tryz.prog 23 #[sixV k n a m c b s a2 m2 c2, .int .i64 ((deep : Int) + 1)] w fun e w' => ∃ ks ts, e = .returned (valSix 9 0 ⟨#[]⟩ ks) ∧ ts.length ≤ 8 ∧ SetOk (deep + 1) ts ∧ KidsB w' (fun b => w.heap.size ≤ b) (ValB w' (fun b => w.heap.size ≤ b) (deep + 1)) ks ts ∧ Below w.heap.size w w' := by
  obtain ⟨hm, hq0, hq9⟩ := kind_mod k hk
  rw [hq] at hm hq0 hq9
  obtain ⟨w1, hw1⟩ : ∃ w1, w1 = (w.alloc (sixO k n a m c b s a2 m2 c2)).alloc (sixO 0 false none 0 0 0 ⟨#[]⟩ none 0 0) := ⟨_, rfl⟩
  obtain ⟨r0, r1, hb1, _⟩ := two_new w (sixO k n a m c b s a2 m2 c2) (sixO 0 false none 0 0 0 ⟨#[]⟩ none 0 0)
  rw [← hw1] at r0 r1 hb1
  have HW1 := Lib.hid hw1; have HB1 := Lib.hid hb1; have HR0 := Lib.hid r0; have HR1 := Lib.hid r1
  have HC := Lib.hid (cleanSet_any k n a m c b s a2 m2 c2 deep f hd hm2 w1 (by
    rcases hkids with h | ⟨g, p, e, hg, h⟩
    · exact .inl h
    · exact .inr ⟨g, p, e, Nat.lt_of_lt_of_le hg hb1.size, fun i hi => by
        obtain ⟨u, hu, hr⟩ := h i hi
        exact ⟨u, hu.below hg hb1, hr.below hb1⟩⟩) (fun u W hr hb => hE u W hr (hb1.trans (hb.mono hb1.size))))
  obtain ⟨x0, x1, x2, x3, x4, x5⟩ := box6 r0 (Below.refl _ _)
  obtain ⟨z0, z1, z2, z3, z4, z5⟩ := box6 r1 (Below.refl _ _)
  have hdd : ¬ ((deep : Int) + 1 ≤ 0) := by omega
  have hw1s : w.heap.size + 2 ≤ w1.heap.size := by rw [hw1]; simp
  clear hw1 r0 r1 hb1 hk hq hkids hE
  go_enter Tryz.func23, Tryz.ntmps23
  go_upto_if 18 with fail
  rw [← HW1.out]
  go_wp2_with fail
  refine HC.out.mono ?_
  rintro e w2 ⟨ks, rfl, ts, htl, hto, hks, hb2⟩
  have HB2 := Lib.hid (HB1.out.trans (hb2.mono HB1.out.size))
  have HR2 := Lib.hid ((hb2.block _ (Array.getElem?_eq_some_iff.1 HR1.out).1).trans HR1.out)
  obtain ⟨ka, kn, kc, rfl⟩ : ∃ a n c, ks = .slice a n c := by
    rcases hks.shape with ⟨_, a, c, h⟩ | ⟨_, g, p, c, h⟩
    · exact ⟨_, _, _, h⟩
    · exact ⟨_, _, _, h⟩
  have HKS := Lib.hid hks; have HTO := Lib.hid (And.intro htl hto)
  obtain ⟨y0, y1, y2, y3, y4, y5⟩ := box6 HR2.out (Below.refl _ _)
  have fy : ∀ i, w2.frozen? ⟨w.heap.size + 1, i, none⟩ = false := six_frozen HR2.out
  clear hks htl hto hb2
  go_wp2
  obtain ⟨e0, e1, e2, e3, e4, e5⟩ := box6 (put6_heap HR2.out) (Below.refl _ (put6 w2 (w.heap.size + 1) (.int .i64 9) (.bool false) (.slice none 0 0) (.int .u64 0) (.string ⟨#[]⟩) (.slice ka kn kc)))
  have hch := put6_chg w2 (w.heap.size + 1) (.int .i64 9) (.bool false) (.slice none 0 0) (.int .u64 0) (.string ⟨#[]⟩) (.slice ka kn kc)
  have hks := HKS.out.turn (S' := fun b => w.heap.size ≤ b) (Q := ValB _ (fun b => w.heap.size ≤ b) (deep + 1)) (fun b h => by have := HB1.out.size; omega) hch.size (fun b h hh => hch.block b hh (by omega)) (fun u t h => h.turn (S' := fun b => w.heap.size ≤ b) (fun b h => by have := HB1.out.size; omega) hch.size (fun b h hh => hch.block b hh (by omega)))
  unfold put6 at e0 e1 e2 e3 e4 e5
  exact bodyPost_ret (v := sixV 9 false none 0 0 0 ⟨#[]⟩ ka kn kc) (by simp [results, Tryz.results23, go_sem, e0, e1, e2, e3, e4, e5]) rfl ⟨_, ts, rfl, HTO.out.1, HTO.out.2, hks, Chg.below HB2.out HB2.out.size hch (by omega)⟩

theorem cleanT_flat {d : Nat} {T : Tr} (h : T.kids = []) (h2 : match T with | .lst _ | .tup _ | .dic _ | .set _ => False | _ => True) : CleanT (d + 1) T := by
  cases T <;> first | exact h2.elim | exact ⟨fun k hk => (by rw [h] at hk; cases hk), trivial⟩
theorem Clean_any : ∀ (deep f : Nat) (u : Value) (w : World), deep ≤ 100 → RawAt w f u → Calls Tryz.prog 23 #[u, .int .i64 deep] w (CleanIs deep w)
  | _, 0, _, _, _, h => h.elim
  | deep, f + 1, u, w, hd, h => by
    obtain ⟨k, n, a, m, c, b, s, a2, m2, c2, e, hk, hb, hs, hm, hm2, hmc, hm2c, ⟨V, hV⟩, hkids⟩ := h
    subst e
    have flat : ∀ q, ckind k deep = q → 0 ≤ q → q < 6 → Calls Tryz.prog 23 #[sixV k n a m c b s a2 m2 c2, .int .i64 deep] w (CleanIs deep w) := fun q hq h0 h6 => by
      have hc : q = 0 ∨ q = 1 ∨ q = 2 ∨ q = 3 ∨ q = 4 ∨ q = 5 := by omega
      have hsz : (s.extract 0 (min s.size 60)).size ≤ 60 := by simp; omega
      rcases hc with rfl | rfl | rfl | rfl | rfl | rfl
      · exact (Clean_none k n a m c b s a2 m2 c2 deep hd hk hq w).mono fun e w' ⟨he, hb⟩ => ⟨_, .non, he, rfl, cleanT_flat rfl trivial, hb⟩
      · exact (Clean_bool k n a m c b s a2 m2 c2 deep hd hk hq w).mono fun e w' ⟨he, hb⟩ => ⟨_, .bool _, he, rfl, cleanT_flat rfl trivial, hb⟩
      · exact (Clean_int k n a m c b s a2 m2 c2 deep V hd hk hq w hV hmc hm).mono fun e w' ⟨s', m', V', he, hm', hmag, hb⟩ => ⟨_, .int (n && decide (0 < V')) V', he, ⟨s', m', rfl, hmag, hm', fun h => by simp at h; exact h.2⟩, cleanT_flat rfl trivial, hb⟩
      · refine (Clean_flt k n a m c b s a2 m2 c2 deep hd hk hq w).mono fun e w' ⟨he, hb2⟩ => ⟨_, .flt b.toNat, he, ⟨?_, by omega⟩, cleanT_flat rfl trivial, hb2⟩
        rw [Int.toNat_of_nonneg hb.1]
      · exact (Clean_str k n a m c b s a2 m2 c2 deep hd hk hq hs w).mono fun e w' ⟨he, hb⟩ => ⟨_, .str _, he, ⟨rfl, hsz⟩, cleanT_flat rfl trivial, hb⟩
      · exact (Clean_byt k n a m c b s a2 m2 c2 deep hd hk hq hs w).mono fun e w' ⟨he, hb⟩ => ⟨_, .byt _, he, ⟨rfl, hsz⟩, cleanT_flat rfl trivial, hb⟩
    cases deep with
    | zero =>
      refine flat (ckind k 0) rfl ?_ ?_
      all_goals (unfold ckind; split <;> omega)
    | succ deep =>
      by_cases h6 : k % 10 < 6
      · refine flat (k % 10) ?_ (by omega) h6
        unfold ckind
        rw [if_neg (by omega)]
      · have hE : ∀ u W, RawAt W f u → Below w.heap.size w W → Calls Tryz.prog 23 #[u, .int .i64 deep] W (CleanIs deep W) := fun u W hr _ => Clean_any deep f u W (by omega) hr
        have hc : k % 10 = 6 ∨ k % 10 = 7 ∨ k % 10 = 8 ∨ k % 10 = 9 := by omega
        have hcast : ((deep + 1 : Nat) : Int) = (deep : Int) + 1 := rfl
        rw [hcast]
        rcases hc with hq | hq | hq | hq
        · exact (Clean_seq k n a m c b s a2 m2 c2 deep f (by omega) 6 (.inl rfl) hk hq hm2 w hkids hE).mono fun e w' ⟨ks, ts, he, hl, hct, hk2, hb⟩ => ⟨_, .lst ts, he, ⟨ks, rfl, hk2⟩, ⟨hct, hl⟩, hb⟩
        · exact (Clean_seq k n a m c b s a2 m2 c2 deep f (by omega) 7 (.inr rfl) hk hq hm2 w hkids hE).mono fun e w' ⟨ks, ts, he, hl, hct, hk2, hb⟩ => ⟨_, .tup ts, he, ⟨ks, rfl, hk2⟩, ⟨hct, Nat.le_trans hl (by decide)⟩, hb⟩
        · exact (Clean_dic k n a m c b s a2 m2 c2 deep f (by omega) hk hq hm2 w hkids hE).mono fun e w' ⟨ks, ts, he, hl, hct, hk2, hb⟩ => ⟨_, .dic ts, he, ⟨ks, rfl, hk2⟩, ⟨hct.2.1, hct.1, hl, hct.2.2.1, hct.2.2.2⟩, hb⟩
        · exact (Clean_set k n a m c b s a2 m2 c2 deep f (by omega) hk hq hm2 w hkids hE).mono fun e w' ⟨ks, ts, he, hl, hct, hk2, hb⟩ => ⟨_, .set ts, he, ⟨ks, rfl, hk2⟩, ⟨fun k hk => (hct.1 k hk).1, hl, fun k hk => (hct.1 k hk).2, hct.2⟩, hb⟩
end Go.Proofs.YtpcleebnfgnhdaaGreatDoor

/- For cleanNode's walk: the state of its loop. -/
set_option linter.unusedVariables false
set_option linter.unusedSimpArgs false
namespace Go.Proofs.YtpcleebnfgnhdaaGreatDoor
open Go.RowKit
open Num

/-- what the head of cleanNode leaves: the clean value in a box -/
def HeadAt (w1 wx : World) (s9 : Value) : Prop :=
  ∃ bv T n a m c b s d o f t, s9 = .pointer (some ⟨bv, 0, none⟩) ∧ wx.heap[bv]? = some (sixO T n a m c b s d o f) ∧ w1.heap.size ≤ bv ∧
    CleanT 2 t ∧ ValB wx (fun b => w1.heap.size ≤ b ∧ b ≠ bv) 2 (sixV T n a m c b s d o f) t ∧ Below w1.heap.size w1 wx

/-- what cleanNode leaves -/
def NodeIs (N : List Nd) (i nn : Nat) (w : World) (e : Ending) (w' : World) : Prop :=
  ∃ x v, e = .returned v ∧ NdB w' (fun b => w.heap.size ≤ b) v x ∧ NodeOK N nn i x ∧ Below w.heap.size w w'
/-- a node's kids so far, the trees of its keys -/
structure KInv (N : List Nd) (kd : Int) (i nn : Nat) (l : List Nat) (ts : List Tr) : Prop where
  all : ∀ k ∈ l, k < nn
  len : l.length ≤ 8
  flat : kd < 6 → l = []
  tup : kd = 7 → ∀ k ∈ l, k < i
  dic : kd = 8 → l.length % 2 = 0 ∧ KeysAre N i (evens l) ts
  set : kd = 9 → KeysAre N i l ts
theorem KInv.begin (N : List Nd) (kd : Int) (i nn : Nat) : KInv N kd i nn [] [] :=
  ⟨fun k h => by simp at h, by simp, fun _ => rfl, fun _ k h => by simp at h, fun _ => ⟨rfl, rfl, fun j h => by simp [evens] at h, trivial⟩, fun _ => ⟨rfl, fun j h => by simp at h, trivial⟩⟩
/-- the state of cleanNode's loop -/
def CndAt (N : List Nd) (S : Nat → Prop) (kd : Int) (vn : Bool) (va : Option Addr) (vm vc : Nat) (vb : Int) (vs : ByteArray) (i nn m2 O : Nat) (w2 : World) (j : Nat) (sv : Value) (wr : World) : Prop :=
  ∃ l ts ks es, j ≤ m2 + 1 ∧ j ≤ 34 ∧ NumOwn w2.heap.size O (.int .i64 kd) (.bool vn) (.slice va vm vc) (.int .u64 vb) (.string vs) l ks wr ∧ OwnE w2.heap.size (fun b => (S b ∨ w2.heap.size ≤ b) ∧ ks.ownBlock ≠ some b) wr 10 sv es ∧ (kd ≤ 7 → sv = .slice none 0 0 ∧ es = []) ∧ es.map (·.2) = ts ∧ (∀ b, sv.ownBlock = some b → ks.ownBlock ≠ some b) ∧ Chg O w2 wr ∧ KInv N kd i nn l ts

theorem CndAt.next {N : List Nd} {S : Nat → Prop} {kd : Int} {vn : Bool} {va : Option Addr} {vm vc : Nat} {vb : Int} {vs : ByteArray} {i nn m2 O : Nat} {w2 : World} {j j' : Nat} {sv : Value} {wr : World} (h : CndAt N S kd vn va vm vc vb vs i nn m2 O w2 j sv wr) (h1 : j' ≤ m2 + 1) (h2 : j' ≤ 34) : CndAt N S kd vn va vm vc vb vs i nn m2 O w2 j' sv wr := by
  obtain ⟨l, ts, ks, es, _, _, h⟩ := h
  exact ⟨l, ts, ks, es, h1, h2, h⟩

theorem NumOwn.numsB {base O : Nat} {c0 c1 c2 c3 c4 ks : Value} {l : List Nat} {w : World} (h : NumOwn base O c0 c1 c2 c3 c4 l ks w) (S : Nat → Prop) (hB : ∀ b, base ≤ b → S b) : NumsB w S ks l := by
  rcases h.own.2 with ⟨rfl, h0⟩ | ⟨g, cap, cur, rfl, hbg, hg, hn, hcm, hcs, htk⟩
  · exact .inl ⟨List.eq_nil_of_length_eq_zero h0, _, _, rfl⟩
  · by_cases h0 : l.length = 0
    · exact .inl ⟨List.eq_nil_of_length_eq_zero h0, _, _, by rw [h0]⟩
    · refine .inr ⟨by omega, g, 0, cap, rfl, hB g hbg, hn, by simpa [maxLen] using hcm, (Array.getElem?_eq_some_iff.1 hg).1, fun i hi => ?_⟩
      rw [Nat.zero_add, cell_of_row w g i cur _ (0, 0) hg]
      have h1 : (cur.toList.take (l.length * 1))[i]? = (nums l)[i]? := by rw [htk]
      rw [List.getElem?_take, if_pos (by omega)] at h1
      have h2 : cur[i]? = (nums l)[i]? := by simpa using h1
      rw [h2]
      simp [nums, hi]
theorem val_bare {w : World} {S : Nat → Prop} {d : Nat} {k : Int} {n : Bool} {a : Option Addr} {m c : Nat} {b : Int} {s : ByteArray} {a2 : Option Addr} {m2 c2 : Nat} {T : Tr} (h : ValB w S (d + 1) (sixV k n a m c b s a2 m2 c2) T) :
    k = T.kind ∧ ValB w S 1 (sixV T.kind n a m c b s none 0 0) (withKids T []) := by
  have hk : k = T.kind := by
    obtain ⟨n', a', m', c', b', s', a2', c2', e⟩ := h.at_.kind
    injection e with e
    injection e with e
    injection e with q0 e
    injection q0
  subst hk
  have box : ∀ (q : Int) (l : List Tr), (∃ ks', sixV q n a m c b s a2 m2 c2 = valSix q 0 ⟨#[]⟩ ks' ∧ KidsB w S (ValB w S d) ks' l) → ∃ ks', sixV q n a m c b s none 0 0 = valSix q 0 ⟨#[]⟩ ks' ∧ KidsB w S (ValB w S 0) ks' [] := fun q l ⟨ks', e, _⟩ => by
    injection e with e
    injection e with e
    injection e with q0 e; injection e with q1 e; injection e with q2 e; injection e with q3 e; injection e with q4 e; injection e with q5 e
    refine ⟨.slice none 0 0, ?_, .inl ⟨rfl, _, _, rfl⟩⟩
    show Value.agg #[.int .i64 q, .bool n, .slice a m c, .int .u64 b, .string s, .slice none 0 0] = Value.agg _
    rw [q1, q2, q3, q4]
  have flat : T.kind < 6 → sixV T.kind n a m c b s a2 m2 c2 = sixV T.kind n a m c b s none 0 0 := fun h6 => by
    obtain ⟨n', a', m', c', b', s', e, _⟩ := h.flat h6
    injection e with e
    injection e with e
    injection e with q0 e; injection e with q1 e; injection e with q2 e; injection e with q3 e; injection e with q4 e; injection e with q5 e
    show Value.agg #[.int .i64 T.kind, .bool n, .slice a m c, .int .u64 b, .string s, .slice a2 m2 c2] = Value.agg _
    rw [q5]
  refine ⟨rfl, ?_⟩
  cases T with
  | lst l => exact box 6 l h
  | tup l => exact box 7 l h
  | dic l => exact box 8 l h
  | set l => exact box 9 l h
  | non => rw [← flat (show (0 : Int) < 6 by decide)]; exact ValB.any_level (d := d) (T := .non) h (show (0 : Int) < 6 by decide)
  | bool x => rw [← flat (show (1 : Int) < 6 by decide)]; exact ValB.any_level (d := d) (T := .bool x) h (show (1 : Int) < 6 by decide)
  | int x V => rw [← flat (show (2 : Int) < 6 by decide)]; exact ValB.any_level (d := d) (T := .int x V) h (show (2 : Int) < 6 by decide)
  | flt B => rw [← flat (show (3 : Int) < 6 by decide)]; exact ValB.any_level (d := d) (T := .flt B) h (show (3 : Int) < 6 by decide)
  | str x => rw [← flat (show (4 : Int) < 6 by decide)]; exact ValB.any_level (d := d) (T := .str x) h (show (4 : Int) < 6 by decide)
  | byt x => rw [← flat (show (5 : Int) < 6 by decide)]; exact ValB.any_level (d := d) (T := .byt x) h (show (5 : Int) < 6 by decide)
theorem KInv.ok {N : List Nd} {i nn : Nat} {l : List Nat} {ts : List Tr} {T : Tr} (h : KInv N T.kind i nn l ts) : NodeOK N nn i ⟨T, l⟩ := by
  refine ⟨h.len, h.all, ?_⟩
  cases T with
  | lst x => trivial
  | tup x => exact h.tup rfl
  | dic x => exact ⟨(h.dic rfl).1, ts, (h.dic rfl).2⟩
  | set x => exact ⟨ts, h.set rfl⟩
  | non => exact h.flat (show (0 : Int) < 6 by decide)
  | bool x => exact h.flat (show (1 : Int) < 6 by decide)
  | int x V => exact h.flat (show (2 : Int) < 6 by decide)
  | flt B => exact h.flat (show (3 : Int) < 6 by decide)
  | str x => exact h.flat (show (4 : Int) < 6 by decide)
  | byt x => exact h.flat (show (5 : Int) < 6 by decide)

theorem box6n {w W : World} {b T : Nat} {c0 c1 c2 c3 c4 c5 : Value} (h : w.heap[b]? = some (.cells #[c0, c1, c2, c3, c4, c5] T (0, 0))) (hb : Below w.heap.size w W) :
    W.cell? ⟨b, 0, none⟩ = some c0 ∧ W.cell? ⟨b, 1, none⟩ = some c1 ∧ W.cell? ⟨b, 2, none⟩ = some c2 ∧ W.cell? ⟨b, 3, none⟩ = some c3 ∧ W.cell? ⟨b, 4, none⟩ = some c4 ∧ W.cell? ⟨b, 5, none⟩ = some c5 := box6 h hb

theorem RawNd.kids {w : World} {k : Int} {n : Bool} {a : Option Addr} {m c : Nat} {b : Int} {s : ByteArray} {a2 : Option Addr} {m2 c2 : Nat} (h : RawNd w (sixV k n a m c b s a2 m2 c2)) : m2 ≤ c2 ∧ (m2 = 0 ∨ ∃ g p, a2 = some ⟨g, p, none⟩ ∧ g < w.heap.size ∧ ∀ i, i < m2 → ∃ z : Int, w.cell? ⟨g, p + i, none⟩ = some (.int .i64 z)) := by
  obtain ⟨k', n', a', m', c', b', s', a2', m2', c2', e, _, _, _, _, _, _, h7, _, hk⟩ := h
  injection e with e
  injection e with e
  injection e with q0 e; injection e with q1 e; injection e with q2 e; injection e with q3 e; injection e with q4 e; injection e with q5 e
  injection q5 with p1 p2 p3
  subst p1; subst p2; subst p3
  exact ⟨h7, hk⟩

theorem NumDone.chg {base O : Nat} {c0 c1 c2 c3 c4 ks ks' : Value} {l l' : List Nat} {w2 wr W w8 : World} (h : NumDone base O c0 c1 c2 c3 c4 l' ks ks' W w8) (hn : NumOwn base O c0 c1 c2 c3 c4 l ks wr) (hb : Below wr.heap.size wr W) (hch : Chg O w2 wr) (hB : base = w2.heap.size) : Chg O w2 w8 := by
  have hs := hch.size
  refine ⟨h.b.os.trans (hb.os.trans hch.os), h.b.tape.trans (hb.tape.trans hch.tape), h.b.output.trans (hb.output.trans hch.output), Nat.le_trans hs (Nat.le_trans hb.size h.b.size), fun k hk hkO => ?_⟩
  have e1 : W.heap[k]? = w2.heap[k]? := (hb.block k (by omega)).trans (hch.block k hk hkO)
  have hbs := hb.size
  rcases Nat.lt_or_ge k O with h1 | h1
  · exact (h.b.block k h1).trans e1
  · exact (h.r k (by omega) (by omega) (hn.ne k (by omega))).trans e1
theorem KInv.list {N : List Nd} {kd : Int} {i nn k : Nat} {l : List Nat} {ts : List Tr} (h : KInv N kd i nn l ts) (h6 : kd = 6) (hk : k < nn) (hl : l.length < 8) : KInv N kd i nn (l ++ [k]) ts :=
  ⟨fun x hx => by
    rcases List.mem_append.1 hx with hx | hx
    · exact h.all x hx
    · obtain rfl : x = k := by simpa using hx
      exact hk, by simp; omega, fun h5 => by omega, fun h7 => by omega, fun h8 => by omega, fun h9 => by omega⟩
theorem KInv.tuple {N : List Nd} {kd : Int} {i nn k : Nat} {l : List Nat} {ts : List Tr} (h : KInv N kd i nn l ts) (h7 : kd = 7) (hk : k < i) (hi : i ≤ nn) (hl : l.length < 8) : KInv N kd i nn (l ++ [k]) ts :=
  ⟨fun x hx => by
    rcases List.mem_append.1 hx with hx | hx
    · exact h.all x hx
    · obtain rfl : x = k := by simpa using hx
      omega, by simp; omega, fun h5 => by omega, fun _ x hx => by
    rcases List.mem_append.1 hx with hx | hx
    · exact h.tup h7 x hx
    · obtain rfl : x = k := by simpa using hx
      exact hk, fun h8 => by omega, fun h9 => by omega⟩

theorem apart_push {d : Nat} {t : Tr} : ∀ {ts : List Tr}, Apart d ts → (∀ x ∈ ts, eqv d x t = false) → Apart d (ts ++ [t])
  | [], _, _ => ⟨fun y hy => by simp at hy, trivial⟩
  | x :: ts, h, hx => ⟨fun y hy => by
      rcases List.mem_append.1 hy with hy | hy
      · exact h.1 y hy
      · obtain rfl : y = t := by simpa using hy
        exact hx x (by simp), apart_push h.2 (fun z hz => hx z (by simp [hz]))⟩
theorem KeysAre.push {N : List Nd} {i k : Nat} {ks : List Nat} {ts : List Tr} {t : Tr} (h : KeysAre N i ks ts) (hk : k < i) (ht : treeG N 10 k = some t) (hy : KeyT 10 t) (hs : Slim 10 t) (hx : ∀ x ∈ ts, eqv 10 x t = false) : KeysAre N i (ks ++ [k]) (ts ++ [t]) := by
  have hl := h.len
  refine ⟨by simp [hl], fun j hj hj2 => ?_, apart_push h.apart hx⟩
  by_cases e : j < ks.length
  · rw [List.getElem_append_left e, List.getElem_append_left (by omega)]
    exact h.key j e (by omega)
  · have hj3 : j = ks.length := by simp at hj; omega
    subst hj3
    rw [List.getElem_append_right (Nat.le_refl _), List.getElem_append_right (by omega)]
    simp only [Nat.sub_self, List.getElem_singleton]
    exact ⟨hk, ht, hy, hs⟩
theorem evens_push2 : ∀ (l : List Nat) (a b : Nat), l.length % 2 = 0 → evens (l ++ [a, b]) = evens l ++ [a]
  | [], _, _, _ => rfl
  | [x], _, _, h => by simp at h
  | x :: y :: l, a, b, h => by
    show x :: evens (l ++ [a, b]) = x :: (evens l ++ [a])
    rw [evens_push2 l a b (by simp at h; omega)]

end Go.Proofs.YtpcleebnfgnhdaaGreatDoor

/- Plain: what a graph's nodes unfold to is slim. -/
set_option linter.unusedVariables false
set_option linter.unusedSimpArgs false
namespace Go.Proofs.YtpcleebnfgnhdaaGreatDoor
open Go.RowKit
open Num

theorem kind_le (T : Tr) : T.kind ≤ 9 := by
  cases T <;> simp [Tr.kind]
theorem withKids_kids (T : Tr) (l : List Tr) : (withKids T l).kids = l ∨ (withKids T l).kids = [] := by
  cases T <;> first | exact .inl rfl | exact .inr rfl
theorem treeG_slim {N : List Nd} (hN : ∀ x ∈ N, x.ks.length ≤ 8) : ∀ (d i : Nat) (t : Tr), treeG N d i = some t → Slim d t
  | 0, _, _, h => by cases h
  | d + 1, i, t, h => by
    unfold treeG at h
    cases hx : N[i]? with
    | none => rw [hx] at h; cases h
    | some x =>
      rw [hx] at h
      dsimp only at h
      obtain ⟨l, hl, rfl⟩ := Option.map_eq_some_iff.1 h
      obtain ⟨hlen, hget⟩ := allOf_get hl
      have h8 := hN x (List.mem_of_getElem? hx)
      have hll : l.length ≤ 8 := by rw [hlen, List.length_map]; exact h8
      have hk : ∀ k ∈ l, Slim d k := fun k hk => by
        obtain ⟨j, hj, rfl⟩ := List.getElem_of_mem hk
        have hj2 : j < (x.ks.map (treeG N d)).length := by omega
        have := hget j hj hj2
        rw [List.getElem_map] at this
        exact treeG_slim hN d _ _ this
      rcases withKids_kids x.T l with e | e
      · exact ⟨by rw [e]; omega, by rw [e]; exact hk⟩
      · exact ⟨by rw [e]; simp, by rw [e]; intro k hk; simp at hk⟩
end Go.Proofs.YtpcleebnfgnhdaaGreatDoor

/- For cleanNode's walk: a key sought and pushed. -/
set_option linter.unusedVariables false
set_option linter.unusedSimpArgs false
namespace Go.Proofs.YtpcleebnfgnhdaaGreatDoor
open Go.RowKit
open Num

/-- all blocks below base but O are as before -/
structure Stp (base O : Nat) (w w' : World) : Prop where
  os : w'.os = w.os
  tape : w'.tape = w.tape
  output : w'.output = w.output
  size : w.heap.size ≤ w'.heap.size
  block : ∀ k, k < base → k ≠ O → w'.heap[k]? = w.heap[k]?
theorem Stp.refl (base O : Nat) (w : World) : Stp base O w w := ⟨rfl, rfl, rfl, Nat.le_refl _, fun _ _ _ => rfl⟩
theorem Stp.trans {base O : Nat} {w w' w'' : World} (h : Stp base O w w') (h2 : Stp base O w' w'') : Stp base O w w'' :=
  ⟨h2.os.trans h.os, h2.tape.trans h.tape, h2.output.trans h.output, Nat.le_trans h.size h2.size, fun k a b => (h2.block k a b).trans (h.block k a b)⟩
theorem Stp.below {base O : Nat} {w w' W : World} (h : Stp base O w w') (hs : base ≤ w'.heap.size) (hb : Below w'.heap.size w' W) : Stp base O w W :=
  ⟨hb.os.trans h.os, hb.tape.trans h.tape, hb.output.trans h.output, Nat.le_trans h.size hb.size, fun k a b => (hb.block k (by omega)).trans (h.block k a b)⟩
theorem Stp.chg {O : Nat} {w2 w w' : World} (h : Stp w2.heap.size O w w') (hc : Chg O w2 w) : Chg O w2 w' :=
  ⟨h.os.trans hc.os, h.tape.trans hc.tape, h.output.trans hc.output, Nat.le_trans hc.size h.size, fun k a b => (h.block k a b).trans (hc.block k a b)⟩

/-- a node with its kids' numbers, and the keys seen -/
structure SeenOwn (base O : Nat) (S : Nat → Prop) (c0 c1 c2 c3 c4 : Value) (l : List Nat) (ts : List Tr) (ks sv : Value) (w : World) : Prop where
  no : NumOwn base O c0 c1 c2 c3 c4 l ks w
  ow : ∃ es, OwnE base (fun b => (S b ∨ base ≤ b) ∧ ks.ownBlock ≠ some b) w 10 sv es ∧ es.map (·.2) = ts
  df : ∀ b, sv.ownBlock = some b → ks.ownBlock ≠ some b
  hO : O < base
  hS : ∀ b, S b → b < O
  sz : base ≤ w.heap.size
theorem NumOwn.lt {base O : Nat} {c0 c1 c2 c3 c4 ks : Value} {l : List Nat} {w : World} (h : NumOwn base O c0 c1 c2 c3 c4 l ks w) : ∀ b, ks.ownBlock = some b → base ≤ b ∧ b < w.heap.size := fun b e => by
  rcases h.own.2 with ⟨h1, _⟩ | ⟨g, cap, cur, h1, hbg, hg, _⟩
  · rw [h1] at e; cases e
  · rw [h1] at e
    obtain rfl : g = b := Option.some.inj e
    exact ⟨hbg, (Array.getElem?_eq_some_iff.1 hg).1⟩
theorem SeenOwn.below {base O : Nat} {S : Nat → Prop} {c0 c1 c2 c3 c4 : Value} {l : List Nat} {ts : List Tr} {ks sv : Value} {w W : World} (h : SeenOwn base O S c0 c1 c2 c3 c4 l ts ks sv w) (hb : Below w.heap.size w W) : SeenOwn base O S c0 c1 c2 c3 c4 l ts ks sv W := by
  obtain ⟨es, ho, he⟩ := h.ow
  exact ⟨h.no.below hb, ⟨es, ho.below hb, he⟩, h.df, h.hO, h.hS, Nat.le_trans h.sz hb.size⟩
theorem SeenOwn.len {base O : Nat} {S : Nat → Prop} {c0 c1 c2 c3 c4 : Value} {l : List Nat} {ts : List Tr} {ks sv : Value} {w : World} (h : SeenOwn base O S c0 c1 c2 c3 c4 l ts ks sv w) : ∃ a c, sv = .slice a ts.length c := by
  obtain ⟨es, ho, he⟩ := h.ow
  obtain ⟨a, c, e⟩ := ho.shape
  exact ⟨a, c, by rw [e, ← he, List.length_map]⟩
theorem SeenOwn.find {base O : Nat} {S : Nat → Prop} {c0 c1 c2 c3 c4 : Value} {l : List Nat} {ts : List Tr} {ks sv : Value} {w : World} (h : SeenOwn base O S c0 c1 c2 c3 c4 l ts ks sv w) (hl : ts.length ≤ 1000) (hts : ∀ t ∈ ts, KeyT 10 t ∧ Slim 10 t)
    {key : Value} {K : Tr} (hk : ValAt w 10 key K) (kk : KeyT 10 K) (sk : Slim 10 K) :
    Calls Tryz.prog 30 #[sv, .int .i64 1, key] w fun e w' => ∃ r : Int, e = .returned (.int .i64 r) ∧ FoundAt (fun x => eqv 10 x K) 1 ts r ∧ Below w.heap.size w w' := by
  obtain ⟨es, ho, he⟩ := h.ow
  exact Find_own 10 1 (.inl rfl) _ _ w sv key es ts K he hl ho hk kk sk (fun i hi => hts _ (List.getElem_mem hi))
/-- a key seen is pushed -/
theorem SeenOwn.see {base O : Nat} {S : Nat → Prop} {c0 c1 c2 c3 c4 : Value} {l : List Nat} {ts : List Tr} {ks sv : Value} {w w6 : World} {y : Value} {t : Tr} {z : Nat} {o : Oper} {ops : Array Oper} {rest : List Oper} {a : Act} {Q : Exit → Act → World → Prop} (hgd : o.guard = none) (s x : Operand) {c : Nat}
    (ho : o.op = .call { callee := .builtin .append, args := #[s, x], argTypes := #[30, 30] }) (hs : a.eval s = sv) (hx : a.eval x = .slice (some ⟨w6.heap.size, 0, none⟩) 1 c)
    (h : SeenOwn base O S c0 c1 c2 c3 c4 l ts ks sv w) (hl : ts.length ≤ 900)
    (hz : base ≤ z) (hzw : ∀ b, (ks.ownBlock = some b ∨ sv.ownBlock = some b) → b < z)
    (hw : w = w6.alloc (.cells (six y).toArray 32)) (h6 : IsSix y) (hone : ∀ u ∈ six y, u.oneCell' = true) (hy : ValB w6 (fun b => S b ∨ z ≤ b) 10 y t)
    (hK : ∀ sv' w7, Hid (SeenOwn base O S c0 c1 c2 c3 c4 l (ts ++ [t]) ks sv' w7) → Hid (Stp base O w w7) → wpList Tryz.prog ops Q rest (a.put o.dst sv') w7) : wpList Tryz.prog ops Q (o :: rest) a w := by
  obtain ⟨es, hown, he⟩ := h.ow
  have hb67 : Below w6.heap.size w6 w := by rw [hw]; exact below_al0 _ _
  have hent : EntAt (fun b => (S b ∨ base ≤ b) ∧ ks.ownBlock ≠ some b) w 10 sv (y, t) := by
    refine ⟨h6, fun b => (S b ∨ z ≤ b) ∧ b < w6.heap.size, (hy.there).below hb67, fun b hb => ⟨Nat.lt_of_lt_of_le hb.2 hb67.size, ?_, fun e => ?_⟩, fun g hg hb => ?_⟩
    · rcases hb.1 with h1 | h1
      · exact .inl h1
      · exact .inr (by omega)
    · have h1 := hzw b (.inl e)
      have h2 := (h.no.lt b e).1
      rcases hb.1 with h3 | h3
      · have := h.hS b h3; have := h.hO; omega
      · omega
    · have h1 := hzw g (.inr hg)
      have h2 := (hown.lt g hg).1
      rcases hb.1 with h3 | h3
      · have := h.hS g h3; have := h.hO; omega
      · omega
  have hlen : es.length = ts.length := by rw [← he, List.length_map]
  obtain ⟨v', w7, hr, h2, h3, h4⟩ := run_append_kids_at (w := w) (c := c) o.type hown (by omega) h.sz w6.heap.size [(y, t)] (by simp) (fun j u hj => by
    have hrow : w.heap[w6.heap.size]? = some (.cells (six y).toArray 32 (0, 0)) := by rw [hw]; exact heap_alloc_new _ _
    rw [cell_of_row w _ j _ _ (0, 0) hrow]
    simpa using hj) (by simpa using hone) (fun e he => by
    obtain rfl : e = (y, t) := by simpa using he
    exact hent)
  refine wpList_plain hgd fun K hK' => ?_
  unfold Oper.wp execOp
  simp only [List.length_cons, List.length_nil] at hr
  simp only [ho, resolve, invoke, builtin, Sem.run_bind, Sem.run_pure, Result.andThen_ok, List.map_toArray, List.map_cons, List.map_nil, hs, hx, hr]
  refine hK' _ _ (hK v' w7 (Lib.hid ?_) (Lib.hid ?_))
  · have hne : ∀ b, some b ≠ sv.ownBlock → b < w.heap.size → w7.heap[b]? = w.heap[b]? := fun b hb hl => h3.block b hl hb
    have hOl := (Array.getElem?_eq_some_iff.1 h.no.o).1
    refine ⟨h.no.turn (hne O (fun e => ?_) hOl) (fun b e => hne b (fun e2 => ?_) (h.no.lt b e).2), ⟨_, h2, by simp [he]⟩, ?_, h.hO, h.hS, Nat.le_trans h.sz h3.size⟩
    · have := (hown.lt O e.symm).1; have := h.hO; omega
    · exact h.df b e2.symm e
    · intro b e e2
      rcases h4 with h4 | h4
      · exact h.df b (h4.symm.trans e) e2
      · rw [h4] at e
        have hkb := (h.no.lt b e2).2
        have := Option.some.inj e
        omega
  · exact ⟨h3.os, h3.tape, h3.output, h3.size, fun b hl hb => by
      have hs := h.sz
      refine h3.block b (by omega) (fun e => ?_)
      have := (hown.lt b e.symm).1
      omega⟩
/-- a number is pushed -/
theorem SeenOwn.num {base O : Nat} {S : Nat → Prop} {c0 c1 c2 c3 c4 : Value} {l l' : List Nat} {ts : List Tr} {ks ks' sv : Value} {w w8 : World} (h : SeenOwn base O S c0 c1 c2 c3 c4 l ts ks sv w) (hn : NumDone base O c0 c1 c2 c3 c4 l' ks ks' w w8) :
    SeenOwn base O S c0 c1 c2 c3 c4 l' ts ks' sv w8 ∧ Stp base O w w8 := by
  obtain ⟨es, ⟨⟨ho1, ho2⟩, ho3⟩, he⟩ := h.ow
  have hsz := h.sz
  have hO := h.hO
  have hst : Stp base O w w8 := ⟨hn.b.os, hn.b.tape, hn.b.output, hn.b.size, fun k hk hkO => by
    rcases Nat.lt_or_ge k O with h1 | h1
    · exact hn.b.block k h1
    · refine hn.r k (by omega) (by omega) (fun e => ?_)
      have := (h.no.lt k e.symm).1
      omega⟩
  have keep : ∀ b, b < w.heap.size → b ≠ O → ks.ownBlock ≠ some b → w8.heap[b]? = w.heap[b]? := fun b hb hbO hne => by
    rcases Nat.lt_or_ge b O with h1 | h1
    · exact hn.b.block b h1
    · exact hn.r b (by omega) hb (fun e => hne e.symm)
  refine ⟨⟨hn.o, ⟨es, ⟨⟨ho1, ?_⟩, fun e hm => ?_⟩, he⟩, ?_, hO, h.hS, Nat.le_trans hsz hn.b.size⟩, hst⟩
  · rcases ho2 with h2 | ⟨g, cap, cur, e, hbg, hg, rest⟩
    · exact .inl h2
    · exact .inr ⟨g, cap, cur, e, hbg, (keep g (Array.getElem?_eq_some_iff.1 hg).1 (by omega) (h.df g (by rw [e]; rfl))).trans hg, rest⟩
  · obtain ⟨h6, S', a1, a2, a3⟩ := ho3 e hm
    have hSO : ∀ b, S' b → b ≠ O := fun b hb e => by
      subst e
      rcases (a2 b hb).2.1 with h1 | h1
      · have := h.hS b h1; omega
      · omega
    refine ⟨h6, S', a1.turn (fun _ h => h) hn.b.size (fun b hb hl => keep b hl (hSO b hb) (a2 b hb).2.2), fun b hb => ⟨Nat.lt_of_lt_of_le (a2 b hb).1 hn.b.size, (a2 b hb).2.1, fun e => ?_⟩, a3⟩
    rcases hn.f with h1 | ⟨b', h1, h2⟩
    · exact (a2 b hb).2.2 (h1.symm.trans e)
    · rw [h1] at e
      have := Option.some.inj e
      have := (a2 b hb).1
      omega
  · intro b e e2
    rcases hn.f with h1 | ⟨b', h1, h2⟩
    · exact h.df b e (h1.symm.trans e2)
    · rw [h1] at e2
      have := Option.some.inj e2
      rcases ho2 with ⟨h3, _⟩ | ⟨g, cap, cur, e3, hbg, hg, _⟩
      · rw [h3] at e; cases e
      · rw [e3] at e
        obtain rfl : g = b := Option.some.inj e
        have := (Array.getElem?_eq_some_iff.1 hg).1
        omega

theorem alloc_set_cell (w : World) (p : Addr) (v x : Value) (T : TypeId) : ((w.setCell p v).alloc (.cells #[x] T)).cell? ⟨w.heap.size, 0, none⟩ = some x := by
  have h := heap_alloc_new (w.setCell p v) (.cells #[x] T)
  have e : (w.setCell p v).heap.size = w.heap.size := by simp
  rw [e] at h
  exact (cell_of_row _ _ 0 _ _ (0, 0) h).trans rfl
theorem KInv.keys {N : List Nd} {kd : Int} {i nn : Nat} {l : List Nat} {ts : List Tr} (h : KInv N kd i nn l ts) (hd : kd = 8 ∨ kd = 9) : (∀ t ∈ ts, KeyT 10 t ∧ Slim 10 t) ∧ ts.length ≤ 8 := by
  have hl := h.len
  have key : ∀ (ks : List Nat), KeysAre N i ks ts → ks.length ≤ 8 → (∀ t ∈ ts, KeyT 10 t ∧ Slim 10 t) ∧ ts.length ≤ 8 := fun ks hk hks => by
    have h1 := hk.len
    refine ⟨fun t ht => ?_, by omega⟩
    obtain ⟨j, hj, rfl⟩ := List.getElem_of_mem ht
    exact (hk.key j (by omega) hj).2.2
  have ev : ∀ (l : List Nat), (evens l).length ≤ l.length := fun l => by
    induction l using evens.induct with
    | case1 a b l ih => simp only [evens, List.length_cons]; omega
    | case2 l h => cases l with
      | nil => simp [evens]
      | cons a l => cases l with
        | nil => simp [evens]
        | cons b l => exact absurd rfl (h a b l)
  rcases hd with h8 | h9
  · exact key _ (h.dic h8).2 (by have := ev l; omega)
  · exact key _ (h.set h9) hl
theorem KInv.setPush {N : List Nd} {kd : Int} {i nn k : Nat} {l : List Nat} {ts : List Tr} {t : Tr} (h : KInv N kd i nn l ts) (h9 : kd = 9) (hk : k < i) (hi : i ≤ nn) (hl : l.length < 8) (ht : treeG N 10 k = some t) (hy : KeyT 10 t) (hs : Slim 10 t) (hx : ∀ x ∈ ts, eqv 10 x t = false) : KInv N kd i nn (l ++ [k]) (ts ++ [t]) :=
  ⟨fun x hx => by
    rcases List.mem_append.1 hx with hx | hx
    · exact h.all x hx
    · obtain rfl : x = k := by simpa using hx
      omega, by simp; omega, fun h5 => by omega, fun h7 => by omega, fun h8 => by omega, fun _ => (h.set h9).push hk ht hy hs hx⟩
theorem KInv.dicPush {N : List Nd} {kd : Int} {i nn k v : Nat} {l : List Nat} {ts : List Tr} {t : Tr} (h : KInv N kd i nn l ts) (h8 : kd = 8) (hk : k < i) (hi : i ≤ nn) (hv : v < nn) (hl : l.length < 8) (ht : treeG N 10 k = some t) (hy : KeyT 10 t) (hs : Slim 10 t) (hx : ∀ x ∈ ts, eqv 10 x t = false) : KInv N kd i nn (l ++ [k] ++ [v]) (ts ++ [t]) := by
  obtain ⟨he, hka⟩ := h.dic h8
  refine ⟨fun x hx => ?_, by simp; omega, fun h5 => by omega, fun h7 => by omega, fun _ => ⟨by simp; omega, ?_⟩, fun h9 => by omega⟩
  · rcases List.mem_append.1 hx with hx | hx
    · rcases List.mem_append.1 hx with hx | hx
      · exact h.all x hx
      · obtain rfl : x = k := by simpa using hx
        omega
    · obtain rfl : x = v := by simpa using hx
      exact hv
  · rw [List.append_assoc]
    show KeysAre N i (evens (l ++ [k, v])) _
    rw [evens_push2 l k v he]
    exact hka.push hk ht hy hs hx
/-- a round of dicts or sets, at its end -/
theorem CndAt.of {N : List Nd} {S : Nat → Prop} {kd : Int} {vn : Bool} {va : Option Addr} {vm vc : Nat} {vb : Int} {vs : ByteArray} {i nn m2 O : Nat} {w2 : World} {j : Nat} {sv ks : Value} {wr : World} {l : List Nat} {ts : List Tr} (hj : j ≤ m2 + 1) (hj2 : j ≤ 34)
    (h : SeenOwn w2.heap.size O S (.int .i64 kd) (.bool vn) (.slice va vm vc) (.int .u64 vb) (.string vs) l ts ks sv wr) (hc : Chg O w2 wr) (hk : KInv N kd i nn l ts) (hd : 8 ≤ kd) : CndAt N S kd vn va vm vc vb vs i nn m2 O w2 j sv wr := by
  obtain ⟨es, ho, he⟩ := h.ow
  exact ⟨l, ts, ks, es, hj, hj2, h.no, ho, fun h7 => by omega, he, h.df, hc, hk⟩
end Go.Proofs.YtpcleebnfgnhdaaGreatDoor

/- For CleanGraph's walk: the graph so far. -/
set_option linter.unusedVariables false
set_option linter.unusedSimpArgs false
namespace Go.Proofs.YtpcleebnfgnhdaaGreatDoor
open Go.RowKit
open Num

theorem OwnN.there {base : Nat} {T : Nat → Prop} {w : World} {ks : Value} {es : List (Value × Nd)} (h : OwnN base T w ks es) : OwnN base (fun b => T b ∧ b < w.heap.size) w ks es :=
  ⟨h.1, fun e he => by
    obtain ⟨h6, S, a1, a2, a3⟩ := h.2 e he
    exact ⟨h6, S, a1, fun b hb => ⟨(a2 b hb).1, (a2 b hb).2, (a2 b hb).1⟩, a3⟩⟩
theorem graphOK_push {N : List Nd} {n : Nat} {x : Nd} (h : GraphOK N n) (hx : NodeOK N n N.length x) : GraphOK (N ++ [x]) n := fun i y hy => by
  rcases Nat.lt_trichotomy i N.length with hl | hl | hl
  · rw [List.getElem?_append_left hl] at hy
    rw [List.take_append_of_le_length (by omega)]
    exact h i y hy
  · subst hl
    rw [List.getElem?_append_right (Nat.le_refl _)] at hy
    obtain rfl : x = y := by simpa using hy
    rw [List.take_append_of_le_length (Nat.le_refl _), List.take_length]
    exact hx
  · rw [List.getElem?_eq_none (by simp; omega)] at hy
    cases hy
theorem GraphOK.nodes {N : List Nd} {n : Nat} (h : GraphOK N n) (hn : n ≤ 1000) : ∀ x ∈ N, x.ks.length ≤ 8 ∧ (∀ k ∈ x.ks, k ≤ 1000000) ∧ (x.T.kind < 6 → x.ks = []) := fun x hx => by
  obtain ⟨i, hi⟩ := List.mem_iff_getElem?.1 hx
  have := h i x hi
  exact ⟨this.1, fun k hk => by have := this.2.1 k hk; omega, fun hk => this.flat hk⟩
/-- the i-th raw node -/
theorem RawNds.node {w : World} {a : Option Addr} {m c : Nat} (h : RawNds w (.slice a m c)) (i : Nat) (hi : i < m) : ∃ g p k n a1 m1 c1 b s a2 m2 c2, a = some ⟨g, p, none⟩ ∧ m ≤ c ∧ m ≤ 9223372036854775807 ∧ g < w.heap.size ∧ Cells6 w g (p + i * 6) k n a1 m1 c1 b s a2 m2 c2 ∧ RawNd w (sixV k n a1 m1 c1 b s a2 m2 c2) := by
  obtain ⟨a', m', c', e, h1, h2, hk⟩ := h
  injection e with e1 e2 e3
  subst e1; subst e2; subst e3
  rcases hk with h0 | ⟨g, p, e, hg, hk⟩
  · omega
  · obtain ⟨u, hu, hr⟩ := hk i hi
    have hr' := hr
    obtain ⟨k, n, a1, m1, c1, b, s, a2, m2, c2, e2, _⟩ := hr
    subst e2
    exact ⟨g, p, k, n, a1, m1, c1, b, s, a2, m2, c2, e, h2, h1, hg, hu.six, hr'⟩
theorem NdB.there {w : World} {S : Nat → Prop} {v : Value} {x : Nd} (h : NdB w S v x) : NdB w (fun b => S b ∧ b < w.heap.size) v x := by
  obtain ⟨n, a, m, c, b, s, v2, e, h1, h2⟩ := h
  refine ⟨n, a, m, c, b, s, v2, e, h1.there, ?_⟩
  rcases h2 with h2 | ⟨h0, g, p, c, e, hg, hc, hc2, hl, hk⟩
  · exact .inl h2
  · exact .inr ⟨h0, g, p, c, e, ⟨hg, hl⟩, hc, hc2, hl, hk⟩
/-- a new node among those so far -/
theorem entN_new {T : Nat → Prop} {base z : Nat} {w5 w8 : World} {ks : Value} {es : List (Value × Nd)} {wr : World} {v : Value} {x : Nd} (hT : ∀ b, z ≤ b → T b) (hown : OwnN base T wr ks es) (hz : wr.heap.size = z) (h : NdB w5 (fun b => z ≤ b) v x) (hb : Below w5.heap.size w5 w8) : EntN T w8 ks (v, x) := by
  have h' := h
  obtain ⟨n, a, m, c, b, s, v2, e, h1, h2⟩ := h
  refine ⟨⟨_, _, _, _, _, _, e⟩, _, (h'.there).turn (S' := fun b => z ≤ b ∧ b < w5.heap.size) (fun _ h => h) hb.size (fun b _ hl => hb.block b hl), fun b hb2 => ⟨Nat.lt_of_lt_of_le hb2.2 hb.size, hT b hb2.1⟩, fun g hg hb2 => ?_⟩
  have := (hown.lt g hg).2
  have := hb2.1
  omega
/-- the one node of an empty graph -/
def nd0 : Nd := ⟨.lst [], []⟩
theorem nd0_ok : GraphOK [nd0] 1 := fun i x hx => by
  cases i with
  | zero =>
    obtain rfl : nd0 = x := by simpa using hx
    exact ⟨by simp [nd0], fun k hk => by simp [nd0] at hk, trivial⟩
  | succ i => simp at hx
theorem nd0_at {w : World} {S : Nat → Prop} {g : Nat} (hS : S g) (h : w.heap[g]? = some (.cells #[.int .i64 6, .bool false, .slice none 0 0, .int .u64 0, .string ⟨#[]⟩, .slice none 0 0] 48 (0, 0))) : GrB w S (.slice (some ⟨g, 0, none⟩) 1 1) [nd0] := by
  refine .inr ⟨by simp, g, 0, 1, rfl, hS, by simp, by omega, (Array.getElem?_eq_some_iff.1 h).1, fun i hi => ?_⟩
  obtain rfl : i = 0 := by simpa using hi
  obtain ⟨c0, c1, c2, c3, c4, c5⟩ := box6n h (Below.refl _ _)
  exact ⟨_, ⟨_, _, _, _, _, _, rfl, c0, c1, c2, c3, c4, c5⟩, false, none, 0, 0, 0, ⟨#[]⟩, .slice none 0 0, rfl, ⟨.slice none 0 0, rfl, .inl ⟨rfl, none, 0, rfl⟩⟩, .inl ⟨rfl, none, 0, rfl⟩⟩
/-- the graph so far -/
def ClgUp (w3 : World) (O : Nat) (rt : Int) (nn i : Nat) (wr : World) : Prop :=
  ∃ ks es, wr.heap[O]? = some (.cells #[ks, .int .i64 rt] 24 (0, 0)) ∧ OwnN w3.heap.size (fun b => w3.heap.size ≤ b) wr ks es ∧ es.length = i ∧ GraphOK (es.map (·.2)) nn ∧ Chg O w3 wr
theorem clg_done {w3 wr w8 w7 : World} {O n i : Nat} {rt : Int} {ks v' : Value} {es : List (Value × Nd)} {v : Value} {x : Nd} (hrow : wr.heap[O]? = some (.cells #[ks, .int .i64 rt] 24 (0, 0))) (hown : OwnN w3.heap.size (fun b => w3.heap.size ≤ b) wr ks es) (hel : es.length = i) (hok : GraphOK (es.map (·.2)) n) (hch : Chg O w3 wr)
    (h7 : OwnN w3.heap.size (fun b => w3.heap.size ≤ b) w7 v' (es ++ [(v, x)])) (hg : w8.grownBy w7 ks.ownBlock) (hok5 : NodeOK (es.map (·.2)) n i x) (hO : O < w3.heap.size) (hb : Below wr.heap.size wr w8) : ClgUp w3 O rt n (i + 1) (w7.setCell ⟨O, 0, none⟩ v') := by
  have hs := hch.size
  have hs2 := hb.size
  have hs3 := hg.size
  have keep : ∀ b, b < w3.heap.size → w7.heap[b]? = wr.heap[b]? := fun b hl => (hg.block b (by omega) (fun e => by have := (hown.lt b e.symm).1; omega)).trans (hb.block b (by omega))
  have hc : Chg O w7 (w7.setCell ⟨O, 0, none⟩ v') := (Chg.refl _ _).set 0 _
  refine ⟨v', es ++ [(v, x)], (set1 (i := 0) (x := v') ((keep O hO).trans hrow)).trans rfl, h7.chg hc hO (fun h => by omega), by simp [hel], ?_, ?_⟩
  · rw [List.map_append]
    exact graphOK_push hok (by rw [List.length_map, hel]; exact hok5)
  · exact ⟨hc.os.trans (hg.os.trans (hb.os.trans hch.os)), hc.tape.trans (hg.tape.trans (hb.tape.trans hch.tape)), hc.output.trans (hg.output.trans (hb.output.trans hch.output)), Nat.le_trans hs (Nat.le_trans hs2 (Nat.le_trans hs3 hc.size)), fun b hl hbO => (hc.block b (by omega) hbO).trans ((keep b hl).trans (hch.block b hl hbO))⟩
/-- what CleanGraph leaves -/
def ClgIs (w : World) (e : Ending) (w' : World) : Prop :=
  ∃ v N, ∃ r : Nat, e = .returned (.agg #[v, .int .i64 r]) ∧ GrB w' (fun b => w.heap.size ≤ b ∧ b < w'.heap.size) v N ∧ r < N.length ∧ N.length ≤ 12 ∧ GraphOK N N.length ∧ Below w.heap.size w w'
end Go.Proofs.YtpcleebnfgnhdaaGreatDoor
