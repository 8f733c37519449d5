import Derived.Test.YtpcleebnfgnhdaaGreatDoorGz35
/- Walks: Clean of lists and tuples. -/
set_option linter.unusedVariables false
set_option linter.unusedSimpArgs false
namespace Go.Proofs.YtpcleebnfgnhdaaGreatDoor
open Go.RowKit
open Num

/-- any value of the specification in memory, of so many levels at most -/
def RawAt (w : World) : Nat → Value → Prop
  | 0, _ => False
  | f + 1, v => ∃ k n a m c b s a2 m2 c2, v = sixV k n a m c b s a2 m2 c2 ∧ (-9223372036854775808 ≤ k ∧ k ≤ 9223372036854775807) ∧ (0 ≤ b ∧ b < 18446744073709551616) ∧ s.size ≤ 9223372036854775807 ∧ m ≤ 9223372036854775807 ∧ m2 ≤ 9223372036854775807 ∧ m ≤ c ∧ m2 ≤ c2 ∧
    (∃ V, BytAt w (.slice a m c) m V) ∧ (m2 = 0 ∨ ∃ g p, a2 = some ⟨g, p, none⟩ ∧ g < w.heap.size ∧ ∀ i, i < m2 → ∃ u, V6 w g (p + i * 6) u ∧ RawAt w f u)
theorem RawAt.below {w w' : World} (hb : Below w.heap.size w w') : ∀ {f : Nat} {v : Value}, RawAt w f v → RawAt w' f v
  | 0, _, h => h
  | f + 1, v, h => by
    obtain ⟨k, n, a, m, c, b, s, a2, m2, c2, e, h1, h2, h3, h4, h5, h6, h7, ⟨V, hV⟩, hk⟩ := h
    refine ⟨k, n, a, m, c, b, s, a2, m2, c2, e, h1, h2, h3, h4, h5, h6, h7, ⟨V, hV.below hb⟩, ?_⟩
    rcases hk with hk | ⟨g, p, e2, hg, hk⟩
    · exact .inl hk
    · exact .inr ⟨g, p, e2, Nat.lt_of_lt_of_le hg hb.size, fun i hi => by
        obtain ⟨u, hu, hr⟩ := hk i hi
        exact ⟨u, hu.below hg hb, RawAt.below hb hr⟩⟩
/-- a kid of any value, its six cells -/
theorem raw_kid {w : World} {f g p m2 : Nat} (hk : ∀ i, i < m2 → ∃ u, V6 w g (p + i * 6) u ∧ RawAt w f u) (i : Nat) (hi : i < m2) :
    ∃ k n a m c b s a2 m2 c2, Cells6 w g (p + i * 6) k n a m c b s a2 m2 c2 ∧ RawAt w f (sixV k n a m c b s a2 m2 c2) := by
  obtain ⟨u, hu, hr⟩ := hk i hi
  cases f with
  | zero => exact hr.elim
  | succ f =>
    have hr' := hr
    obtain ⟨k, n, a, m, c, b, s, a2, m2, c2, e, _⟩ := hr
    obtain ⟨x0, x1, x2, x3, x4, x5, e2, y0, y1, y2, y3, y4, y5⟩ := hu
    rw [e] at e2
    injection e2 with e2
    injection e2 with e2
    injection e2 with q0 e2; injection e2 with q1 e2; injection e2 with q2 e2; injection e2 with q3 e2; injection e2 with q4 e2; injection e2 with q5 e2
    subst q0; subst q1; subst q2; subst q3; subst q4; subst q5
    exact ⟨k, n, a, m, c, b, s, a2, m2, c2, ⟨y0, y1, y2, y3, y4, y5⟩, by rw [← e]; exact hr'⟩

set_option maxRecDepth 100000 in
set_option maxHeartbeats 8000000 in
theorem Clean_seq (k n a m c b s a2 m2 c2) (deep f : Nat) (hd : deep ≤ 100) (kd : Int) (hkd : kd = 6 ∨ kd = 7) (hk : -9223372036854775808 ≤ k ∧ k ≤ 9223372036854775807) (hq : k % 10 = kd) (hm2 : m2 ≤ 9223372036854775807) (w : World)
    (hkids : m2 = 0 ∨ ∃ g p, a2 = some ⟨g, p, none⟩ ∧ g < w.heap.size ∧ ∀ i, i < m2 → ∃ u, V6 w g (p + i * 6) u ∧ RawAt w f u)
    (hE : ∀ u W, RawAt W f u → Below w.heap.size w W → Calls Tryz.prog 23 #[u, .int .i64 deep] W (CleanIs deep W)) :
    Calls Tryz.prog 23 #[sixV k n a m c b s a2 m2 c2, .int .i64 ((deep : Int) + 1)] w fun e w' => ∃ ks ts, e = .returned (valSix kd 0 ⟨#[]⟩ ks) ∧ ts.length ≤ 8 ∧ (∀ t ∈ ts, CleanT (deep + 1) t) ∧ KidsB w' (fun b => w.heap.size ≤ b) (ValB w' (fun b => w.heap.size ≤ b) (deep + 1)) ks ts ∧ Below w.heap.size w w' := by
  obtain ⟨hm, hq0, hq9⟩ := kind_mod k hk
  rw [hq] at hm hq0 hq9
  obtain ⟨w3, hw3⟩ : ∃ w3, w3 = ((w.alloc (sixO k n a m c b s a2 m2 c2)).alloc (sixO 0 false none 0 0 0 ⟨#[]⟩ none 0 0)).alloc (sixO kd false none 0 0 0 ⟨#[]⟩ none 0 0) := ⟨_, rfl⟩
  have HU3 := Lib.hid (NewUp.begin w (fun _ => False) (deep + 1) kd (sixO k n a m c b s a2 m2 c2) w3 hw3)
  have HW3 := Lib.hid hw3
  have hdd : ¬ ((deep : Int) + 1 ≤ 0) := by omega
  have hde : IntKind.i64.wrap ((deep : Int) + 1 - 1) = (deep : Int) := by simp only [IntKind.wrap_i64]; omega
  have hde2 : wrap64 ((deep : Int) + 1 - 1) = (deep : Int) := by unfold wrap64; omega
  have hde3 : IntKind.i64.wrap (deep : Int) = (deep : Int) := by simp only [IntKind.wrap_i64]; omega
  have hde4 : wrap64 (deep : Int) = (deep : Int) := by unfold wrap64; omega
  have e1 : (kd == 1) = false := by simp; omega
  have e2 : (kd == 2) = false := by simp; omega
  have e3 : (kd == 3) = false := by simp; omega
  have e4 : (kd == 4) = false := by simp; omega
  have e5 : (kd == 5) = false := by simp; omega
  have HKD := Lib.hid hkd
  clear hw3 hk hq hkd
  go_enter Tryz.func23, Tryz.ntmps23
  go_upto_if 59 with fail
  go_cut [59] from 60 to 61 (fun x W => x = .bool true ∧ (w.alloc (sixO k n a m c b s a2 m2 c2)).alloc (sixO 0 false none 0 0 0 ⟨#[]⟩ none 0 0) = W)
  case first =>
    rcases HKD.out with h | h
    · have h6 : (kd == 6) = true := by simp [h]
      clear h
      go_wp2
      go_meet
      case rel => exact ⟨by first | rfl | (rw [h6]), rfl⟩
    · have h6 : (kd == 6) = false := by simp; omega
      have h7 : (kd == 7) = true := by simp [h]
      clear h
      go_wp2
      go_meet
      case rel => exact ⟨by first | rfl | (rw [h7]), rfl⟩
  case rest =>
    obtain ⟨rfl, rfl⟩ := hcut
    go_wp2
    rw [← HW3.out]
    clear hm hq0 hq9 hdd e1 e2 e3 e4 e5
    go_loopw [7] (fun i wr => ∃ j : Nat, j ≤ 8 ∧ j ≤ m2 ∧ i = .int .i64 j ∧ ∃ ts, NewUp w (fun _ => False) (deep + 1) kd (sixO k n a m c b s a2 m2 c2) ts wr ∧ ts.length = j ∧ ∀ t ∈ ts, CleanT (deep + 1) t) (fun i _ => 8 - (intOf i).toNat)
    case atStart => exact ⟨0, by omega, by omega, rfl, [], HU3.out, rfl, fun t h => by cases h⟩
    case round =>
      obtain ⟨j, hj8, hjm, rfl, ts, hu, htl, htc⟩ := hrel
      clear HU3
      obtain ⟨ks, es, r2, hown, hes, r0, r1, hb⟩ := hu
      obtain ⟨x0, x1, x2, x3, x4, x5⟩ := box6 r0 (Below.refl _ _)
      by_cases he : j < m2 ∧ j < 8
      · obtain ⟨he1, he2⟩ := he
        have hlt : (j : Int) < (m2 : Int) := by omega
        have hlt8 : (j : Int) < 8 := by omega
        rcases hkids with h0 | ⟨g, p, rfl, hg, hkk⟩
        · omega
        · obtain ⟨k1, n1, a1, m1, c1, b1, s1, d1, o1, f1, hcl, hrw⟩ := raw_kid hkk j he1
          obtain ⟨i0, i1, i2, i3, i4, i5⟩ := hcl.below hb hg
          have HC := Lib.hid (hE _ wr.drew (hrw.below hb.drew) hb.drew)
          have HKK := Lib.hid hkk
          have HEE := Lib.hid hE
          have hwr : w.heap.size + 3 ≤ wr.heap.size := by have := (Array.getElem?_eq_some_iff.1 r2).1; omega
          have hesl : es.length ≤ 900 := by have := congrArg List.length hes; simp at this; omega
          have HTS := Lib.hid (And.intro htl htc)
          have HPU := Lib.hid (show ∀ (w5 : World) (y : Value) (t : Tr) (h6 : IsSix y) (h1 : ∀ u ∈ six y, u.oneCell' = true), ValB w5 (fun b => wr.heap.size ≤ b) (deep + 1) y t → Below wr.heap.size wr w5 → PushAt w (fun _ => False) (deep + 1) kd (sixO k n a m c b s (some ⟨g, p, none⟩) m2 c2) ts [(y, t)] ks es (w5.alloc (.cells (six y).toArray 32)) w5.heap.size from fun w5 y t h6 h1 hy hb5 => by
            have hb6 : Below wr.heap.size wr (w5.alloc (.cells (six y).toArray 32)) := hb5.alloc hb5.size _
            exact ⟨(hb6.block _ (by omega)).trans r2, hown.below hb6, hes, (hb6.block _ (by omega)).trans r0, (hb6.block _ (by omega)).trans r1, hb.trans (hb6.mono hb.size), hesl, by simp, by simpa using heap_alloc_new w5 (.cells (six y).toArray 32), by simpa using h1, fun e he => by
              obtain rfl : e = (y, t) := by simpa using he
              exact entAt_of h6 (fun b h => h.elim) hown hwr (hy.sub (fun b h => .inr h)) ((Below.refl _ _).alloc (Nat.le_refl _) _), fun b h => h.elim⟩)
          have HO := Lib.hid (show ∀ W, Below wr.heap.size wr W → W.cell? ⟨w.heap.size + 1 + 1, 5, none⟩ = some ks from fun W hb => (cell_of_row _ _ 5 _ _ (0, 0) ((hb.block _ (by omega)).trans r2)).trans rfl)
          have o5 := HO.out wr (Below.refl _ _)
          obtain ⟨ka, kc, hksh⟩ := hown.shape
          subst hksh
          clear r0 r1 r2 hown hes hb hcl hwr hesl htl htc hrw hkk hE hjm hj8 he1 he2
          go_wp2
          go_region_law (first | (go_simp; go_at_call 23; (with_reducible refine HC.out.mono ?_); rintro e w5 ⟨y, t, rfl, hy, hty, hb5⟩; obtain ⟨y0, y1, y2, y3, y4, y5, y6, y7, y8, y9, hyy⟩ := hy.at_.shape; subst hyy; have HB5 := Lib.hid (below_undrew hb5); have q5 := HO.out w5 HB5.out; have q6 := fun X => HO.out (w5.alloc X) (HB5.out.alloc HB5.out.size X); have HP := Lib.hid (HPU.out w5 _ t ⟨_, _, _, _, _, _, rfl⟩ (fun u hu => by simp [six] at hu; rcases hu with rfl | rfl | rfl | rfl | rfl | rfl <;> rfl) hy HB5.out); have HTY := Lib.hid hty; clear hb5 hy hty) | (refine step_push rfl (.tmp 76) (.tmp 85) rfl rfl rfl HP.out rfl ?_; intro a' n' c' w7 q7 q8 HN7))
          all_goals go_wp2
          all_goals go_round
          all_goals first
            | exact ⟨j + 1, by omega, by omega, by go_num, ts ++ [t], HN7.out, by simp [HTS.out.1], fun x hx => by
                rcases List.mem_append.1 hx with h | h
                · exact HTS.out.2 x h
                · obtain rfl : x = t := by simpa using h
                  exact HTY.out⟩
            | (simp [intOf]; omega)
      · obtain ⟨ka, kc, rfl⟩ := hown.shape
        obtain ⟨y0, y1, y2, y3, y4, y5⟩ := box6 r2 (Below.refl _ _)
        obtain ⟨z0, z1, z2, z3, z4, z5⟩ := box6 r1 (Below.refl _ _)
        have fz : ∀ i, wr.frozen? ⟨w.heap.size + 1, i, none⟩ = false := six_frozen r1
        have HR1 := Lib.hid r1; have HB := Lib.hid hb; have HOWN := Lib.hid hown; have HES := Lib.hid hes; have HTS := Lib.hid (And.intro htl htc); have HJ8 := Lib.hid hj8
        clear r0 r1 r2 hb hown hes htl htc hE hkids
        by_cases hm : j < m2
        · have hlt : (j : Int) < (m2 : Int) := by omega
          have hge : ¬ ((j : Int) < 8) := by omega
          have hge2 : decide ((j : Int) < 8) = false := by simp; omega
          clear he hm hj8 hjm
          go_wp2
          obtain ⟨e0, e1, e2, e3, e4, e5⟩ := box6 (put6_heap HR1.out) (Below.refl _ (put6 wr (w.heap.size + 1) (.int .i64 kd) (.bool false) (.slice none 0 0) (.int .u64 0) (.string ⟨#[]⟩) (.slice ka es.length kc)))
          unfold put6 at e0 e1 e2 e3 e4 e5
          have hkids := (HOWN.out.chg (put6_chg wr (w.heap.size + 1) (.int .i64 kd) (.bool false) (.slice none 0 0) (.int .u64 0) (.string ⟨#[]⟩) (.slice ka es.length kc)) (by omega) (fun h => by rcases h with h | h; exact h.elim; omega)).kids (T' := fun b => w.heap.size ≤ b) (fun b h => by rcases h with h | h; exact h.elim; omega) (fun b h => by omega)
          rw [HES.out] at hkids
          exact bodyPost_ret (v := sixV kd false none 0 0 0 ⟨#[]⟩ ka es.length kc) (by simp [results, Tryz.results23, go_sem, e0, e1, e2, e3, e4, e5]) rfl ⟨_, rfl, ts, by rw [HTS.out.1]; exact HJ8.out, HTS.out.2, hkids, Chg.below HB.out HB.out.size (put6_chg _ _ _ _ _ _ _ _) (by omega)⟩
        · have hge : ¬ ((j : Int) < (m2 : Int)) := by omega
          have hge2 : decide ((j : Int) < (m2 : Int)) = false := by simp; omega
          clear he hm hj8 hjm
          go_wp2
          obtain ⟨e0, e1, e2, e3, e4, e5⟩ := box6 (put6_heap HR1.out) (Below.refl _ (put6 wr (w.heap.size + 1) (.int .i64 kd) (.bool false) (.slice none 0 0) (.int .u64 0) (.string ⟨#[]⟩) (.slice ka es.length kc)))
          unfold put6 at e0 e1 e2 e3 e4 e5
          have hkids := (HOWN.out.chg (put6_chg wr (w.heap.size + 1) (.int .i64 kd) (.bool false) (.slice none 0 0) (.int .u64 0) (.string ⟨#[]⟩) (.slice ka es.length kc)) (by omega) (fun h => by rcases h with h | h; exact h.elim; omega)).kids (T' := fun b => w.heap.size ≤ b) (fun b h => by rcases h with h | h; exact h.elim; omega) (fun b h => by omega)
          rw [HES.out] at hkids
          exact bodyPost_ret (v := sixV kd false none 0 0 0 ⟨#[]⟩ ka es.length kc) (by simp [results, Tryz.results23, go_sem, e0, e1, e2, e3, e4, e5]) rfl ⟨_, rfl, ts, by rw [HTS.out.1]; exact HJ8.out, HTS.out.2, hkids, Chg.below HB.out HB.out.size (put6_chg _ _ _ _ _ _ _ _) (by omega)⟩
end Go.Proofs.YtpcleebnfgnhdaaGreatDoor

/- Walks: cleanSet. -/
set_option linter.unusedVariables false
set_option linter.unusedSimpArgs false
namespace Go.Proofs.YtpcleebnfgnhdaaGreatDoor
open Go.RowKit
open Num

theorem Apart.snoc {d : Nat} : ∀ {l : List Tr} {x : Tr}, Apart d l → (∀ y ∈ l, eqv d y x = false) → Apart d (l ++ [x])
  | [], x, _, _ => ⟨fun y hy => (by cases hy), trivial⟩
  | a :: l, x, h, hx => ⟨fun y hy => by
      rcases List.mem_append.1 hy with hy | hy
      · exact h.1 y hy
      · obtain rfl : y = x := by simpa using hy
        exact hx a (by simp), Apart.snoc h.2 (fun y hy => hx y (by simp [hy]))⟩
/-- what may stand in a set -/
def SetOk (d : Nat) (ts : List Tr) : Prop := (∀ t ∈ ts, CleanT d t ∧ KeyT d t ∧ Slim d t) ∧ Apart d ts
/-- a key sought among the kids made so far -/
theorem Find_own (d st : Nat) (hst : st = 1 ∨ st = 2) (base : Nat) (T : Nat → Prop) (w : World) (ks key : Value) (es : List (Value × Tr)) (ts : List Tr) (K : Tr) (hes : es.map (·.2) = ts) (hl : ts.length ≤ 1000) (hown : OwnE base T w d ks es) (hk : ValAt w d key K) (kk : KeyT d K) (sk : Slim d K)
    (hts : ∀ i (h : i * st < ts.length), KeyT d ts[i * st] ∧ Slim d ts[i * st]) :
    Calls Tryz.prog 30 #[ks, .int .i64 st, key] w fun e w' => ∃ r : Int, e = .returned (.int .i64 r) ∧ FoundAt (fun x => eqv d x K) st ts r ∧ Below w.heap.size w w' := by
  have hkids := (hown.kids (T' := fun _ => True) (fun _ _ => trivial) (fun _ _ => trivial)).at_ (Q := ValAt w d) (fun u t h => h.at_)
  rw [hes] at hkids
  exact Find_any (ValAt w d) (fun x => eqv d x K) st hst ks key ts (by omega) w hkids (fun u T _ h => h.shape) hk.shape
    (fun i u W h hp hb => SEq_key d u key _ K W (hp.below hb) (hk.below hb) (hts i h).1 kk (hts i h).2 sk)
theorem FoundAt.neg {f : Tr → Bool} {st : Nat} {l : List Tr} {r : Int} (h : FoundAt f st l r) : (r = -1 ∧ ∀ i (h : i * st < l.length), f l[i * st] = false) ∨ 0 ≤ r := by
  rcases h with h | ⟨i, hi, rfl, _⟩
  · exact .inl h
  · exact .inr (by omega)

set_option maxRecDepth 100000 in
set_option maxHeartbeats 8000000 in
theorem cleanSet_any (k n a m c b s a2 m2 c2) (deep f : Nat) (hd : deep ≤ 100) (hm2 : m2 ≤ 9223372036854775807) (w : World)
    (hkids : m2 = 0 ∨ ∃ g p, a2 = some ⟨g, p, none⟩ ∧ g < w.heap.size ∧ ∀ i, i < m2 → ∃ u, V6 w g (p + i * 6) u ∧ RawAt w f u)
    (hE : ∀ u W, RawAt W f u → Below w.heap.size w W → Calls Tryz.prog 23 #[u, .int .i64 deep] W (CleanIs deep W)) :
    Calls Tryz.prog 43 #[sixV k n a m c b s a2 m2 c2, .int .i64 ((deep : Int) + 1)] w fun e w' => ∃ ks, e = .returned (valSix 9 0 ⟨#[]⟩ ks) ∧ ∃ ts, ts.length ≤ 8 ∧ SetOk (deep + 1) ts ∧ KidsB w' (fun b => w.heap.size ≤ b) (ValB w' (fun b => w.heap.size ≤ b) (deep + 1)) ks ts ∧ Below w.heap.size w w' := by
  obtain ⟨w3, hw3⟩ : ∃ w3, w3 = ((w.alloc (sixO k n a m c b s a2 m2 c2)).alloc (sixO 0 false none 0 0 0 ⟨#[]⟩ none 0 0)).alloc (sixO 9 false none 0 0 0 ⟨#[]⟩ none 0 0) := ⟨_, rfl⟩
  have HU3 := Lib.hid (NewUp.begin w (fun _ => False) (deep + 1) 9 (sixO k n a m c b s a2 m2 c2) w3 hw3)
  have HW3 := Lib.hid hw3
  have hde : IntKind.i64.wrap ((deep : Int) + 1 - 1) = (deep : Int) := by simp only [IntKind.wrap_i64]; omega
  have hde2 : wrap64 ((deep : Int) + 1 - 1) = (deep : Int) := by unfold wrap64; omega
  have hde3 : IntKind.i64.wrap (deep : Int) = (deep : Int) := by simp only [IntKind.wrap_i64]; omega
  have hde4 : wrap64 (deep : Int) = (deep : Int) := by unfold wrap64; omega
  clear hw3
  go_enter Tryz.func43, Tryz.ntmps43
  go_wp2
  rw [← HW3.out]
  go_loopw [6] (fun i wr => ∃ j : Nat, j ≤ 8 ∧ j ≤ m2 ∧ i = .int .i64 j ∧ ∃ ts, NewUp w (fun _ => False) (deep + 1) 9 (sixO k n a m c b s a2 m2 c2) ts wr ∧ ts.length ≤ j ∧ SetOk (deep + 1) ts) (fun i _ => 8 - (intOf i).toNat)
  case atStart => exact ⟨0, by omega, by omega, rfl, [], HU3.out, by simp, ⟨fun t h => (by cases h), trivial⟩⟩
  case round =>
    obtain ⟨j, hj8, hjm, rfl, ts, hu, htl, htc⟩ := hrel
    clear HU3
    obtain ⟨ks, es, r2, hown, hes, r0, r1, hb⟩ := hu
    obtain ⟨x0, x1, x2, x3, x4, x5⟩ := box6 r0 (Below.refl _ _)
    by_cases he : j < m2 ∧ j < 8
    · obtain ⟨he1, he2⟩ := he
      have hlt : (j : Int) < (m2 : Int) := by omega
      have hlt8 : (j : Int) < 8 := by omega
      rcases hkids with h0 | ⟨g, p, rfl, hg, hkk⟩
      · omega
      · obtain ⟨k1, n1, a1, m1, c1, b1, s1, d1, o1, f1, hcl, hrw⟩ := raw_kid hkk j he1
        obtain ⟨i0, i1, i2, i3, i4, i5⟩ := hcl.below hb hg
        have HC := Lib.hid (hE _ wr (hrw.below hb) hb)
        have hwr : w.heap.size + 3 ≤ wr.heap.size := by have := (Array.getElem?_eq_some_iff.1 r2).1; omega
        have hesl : es.length ≤ 900 := by have := congrArg List.length hes; simp at this; omega
        have HTS := Lib.hid (And.intro htl htc)
        have HPU := Lib.hid (show ∀ (w6 w8 : World) (y : Value) (t : Tr) (h6 : IsSix y) (h1 : ∀ u ∈ six y, u.oneCell' = true), ValB w6 (fun b => wr.heap.size ≤ b) (deep + 1) y t → Below wr.heap.size wr w6 → Below w6.heap.size w6 w8 → PushAt w (fun _ => False) (deep + 1) 9 (sixO k n a m c b s (some ⟨g, p, none⟩) m2 c2) ts [(y, t)] ks es (w8.alloc (.cells (six y).toArray 32)) w8.heap.size from fun w6 w8 y t h6 h1 hy hb6 hb8 => by
          have hb7 : Below wr.heap.size wr w8 := hb6.trans (hb8.mono hb6.size)
          have hb9 : Below wr.heap.size wr (w8.alloc (.cells (six y).toArray 32)) := hb7.alloc hb7.size _
          exact ⟨(hb9.block _ (by omega)).trans r2, hown.below hb9, hes, (hb9.block _ (by omega)).trans r0, (hb9.block _ (by omega)).trans r1, hb.trans (hb9.mono hb.size), hesl, by simp, by simpa using heap_alloc_new w8 (.cells (six y).toArray 32), by simpa using h1, fun e he => by
            obtain rfl : e = (y, t) := by simpa using he
            exact entAt_of h6 (fun b h => h.elim) hown hwr (hy.sub (fun b h => .inr h)) (hb8.alloc hb8.size _), fun b h => h.elim⟩)
        have HO := Lib.hid (show ∀ W, Below wr.heap.size wr W → W.cell? ⟨w.heap.size + 1 + 1, 5, none⟩ = some ks from fun W hb => (cell_of_row _ _ 5 _ _ (0, 0) ((hb.block _ (by omega)).trans r2)).trans rfl)
        have HFI := Lib.hid (show ∀ (W : World) (key : Value) (K : Tr), Below wr.heap.size wr W → ValAt W (deep + 1) key K → KeyT (deep + 1) K → Slim (deep + 1) K → _ from fun W key K hbw hk kk sk => Find_own (deep + 1) 1 (.inl rfl) _ _ W ks key es ts K hes (by omega) (hown.below hbw) hk kk sk (fun i h => (htc.1 _ (List.getElem_mem h)).2))
        have HNU := Lib.hid (show ∀ W, Below wr.heap.size wr W → NewUp w (fun _ => False) (deep + 1) 9 (sixO k n a m c b s (some ⟨g, p, none⟩) m2 c2) ts W from fun W hbw => ⟨ks, es, (hbw.block _ (by omega)).trans r2, hown.below hbw, hes, (hbw.block _ (by omega)).trans r0, (hbw.block _ (by omega)).trans r1, hb.trans (hbw.mono hb.size)⟩)
        obtain ⟨ka, kc, hksh⟩ := hown.shape
        subst hksh
        clear r0 r1 r2 hown hes hb hcl hwr hesl htl htc hrw hkk hE hjm hj8 he1 he2
        go_wp2_with fail
        refine HC.out.mono ?_
        rintro e w5 ⟨y, t, rfl, hy, hty, hb5⟩
        obtain ⟨y0, y1, y2, y3, y4, y5, y6, y7, y8, y9, hyy⟩ := hy.at_.shape
        subst hyy
        have HK := Lib.hid (Key_any (deep + 1) _ _ t w5 hy hty)
        have HTK := Lib.hid (keyT_ok (deep + 1) t hty)
        have HB5 := Lib.hid hb5
        clear hy hb5 hty
        go_wp2_with fail
        refine HK.out.mono ?_
        rintro e w6 ⟨z, rfl, hz, hb6⟩
        have hz' : ValB w6 (fun b => wr.heap.size ≤ b) (deep + 1) z (keyT (deep + 1) t) := hz.sub (fun b h => by rcases h with h | h; exact h; exact Nat.le_trans HB5.out.size h)
        obtain ⟨z0, z1, z2, z3, z4, z5, z6, z7, z8, z9, hzz⟩ := hz'.at_.shape
        subst hzz
        have hb16 : Below wr.heap.size wr w6 := HB5.out.trans (hb6.mono HB5.out.size)
        have hb7 : Below w6.heap.size w6 (w6.alloc (sixO z0 z1 z2 z3 z4 z5 z6 z7 z8 z9)) := (Below.refl _ _).alloc (Nat.le_refl _) _
        have HF := Lib.hid (HFI.out (w6.alloc (sixO z0 z1 z2 z3 z4 z5 z6 z7 z8 z9)) _ (keyT (deep + 1) t) (hb16.alloc hb16.size _) (hz'.at_.below hb7) HTK.out.1 HTK.out.2.1)
        have q5 := HO.out (w6.alloc (sixO z0 z1 z2 z3 z4 z5 z6 z7 z8 z9)) (hb16.alloc hb16.size _)
        have HZ := Lib.hid hz'; have HB16 := Lib.hid hb16
        clear hz hz' hb6 hb16 hb7
        go_wp2_with fail
        refine HF.out.mono ?_
        rintro e w8 ⟨r, rfl, hr, hb8⟩
        have hb68 : Below w6.heap.size w6 w8 := ((Below.refl _ _).alloc (Nat.le_refl _) _).trans (hb8.mono (by simp))
        obtain ⟨v0, v1, v2, v3, v4, v5⟩ := box6 (heap_alloc_new w6 (sixO z0 z1 z2 z3 z4 z5 z6 z7 z8 z9)) hb8
        have q8 := HO.out w8 (HB16.out.trans (hb68.mono HB16.out.size))
        have HP := Lib.hid (HPU.out w6 w8 _ (keyT (deep + 1) t) ⟨_, _, _, _, _, _, rfl⟩ (fun u hu => by simp [six] at hu; rcases hu with rfl | rfl | rfl | rfl | rfl | rfl <;> rfl) HZ.out HB16.out hb68)
        have HN8 := Lib.hid (HNU.out w8 (HB16.out.trans (hb68.mono HB16.out.size)))
        rcases hr.neg with ⟨rfl, hn⟩ | hr0
        · have HN := Lib.hid hn
          clear hr hn hb8 hb68
          go_wp2_with ((with_reducible show wpList _ _ _ _ _ _); refine wpList_push rfl (.tmp 35) (.tmp 37) rfl rfl rfl HP.out rfl ?_; intro a' n' c' w9 q9 q10 HN9)
          go_round
          all_goals first
            | exact ⟨j + 1, by omega, by omega, by go_num, ts ++ [keyT (deep + 1) t], HN9.out, by have := HTS.out.1; simp; omega, fun x hx => by
                rcases List.mem_append.1 hx with h | h
                · exact HTS.out.2.1 x h
                · obtain rfl : x = keyT (deep + 1) t := by simpa using h
                  exact ⟨HTK.out.2.2, HTK.out.1, HTK.out.2.1⟩, Apart.snoc HTS.out.2.2 (fun y hy => by
                    obtain ⟨i, hi, rfl⟩ := List.getElem_of_mem hy
                    simpa using HN.out i (by omega))⟩
            | (simp [intOf]; omega)
        · have hn0 : ¬ (r < 0) := by omega
          have hn1 : decide (r < 0) = false := by simp; omega
          clear hr hb8 hb68 hr0 HP
          go_wp2
          go_round
          all_goals first
            | exact ⟨j + 1, by omega, by omega, by go_num, ts, HN8.out, by have := HTS.out.1; omega, HTS.out.2⟩
            | (simp [intOf]; omega)
    · obtain ⟨ka, kc, rfl⟩ := hown.shape
      obtain ⟨y0, y1, y2, y3, y4, y5⟩ := box6 r2 (Below.refl _ _)
      obtain ⟨z0, z1, z2, z3, z4, z5⟩ := box6 r1 (Below.refl _ _)
      have fz : ∀ i, wr.frozen? ⟨w.heap.size + 1, i, none⟩ = false := six_frozen r1
      have HR1 := Lib.hid r1; have HB := Lib.hid hb; have HOWN := Lib.hid hown; have HES := Lib.hid hes; have HTS := Lib.hid (And.intro htl htc); have HJ8 := Lib.hid hj8
      clear r0 r1 r2 hb hown hes htl htc hE hkids
      by_cases hm : j < m2
      · have hlt : (j : Int) < (m2 : Int) := by omega
        have hge : ¬ ((j : Int) < 8) := by omega
        have hge2 : decide ((j : Int) < 8) = false := by simp; omega
        clear he hm hj8 hjm
        go_wp2
        obtain ⟨e0, e1, e2, e3, e4, e5⟩ := box6 (put6_heap HR1.out) (Below.refl _ (put6 wr (w.heap.size + 1) (.int .i64 9) (.bool false) (.slice none 0 0) (.int .u64 0) (.string ⟨#[]⟩) (.slice ka es.length kc)))
        unfold put6 at e0 e1 e2 e3 e4 e5
        have hkids := (HOWN.out.chg (put6_chg wr (w.heap.size + 1) (.int .i64 9) (.bool false) (.slice none 0 0) (.int .u64 0) (.string ⟨#[]⟩) (.slice ka es.length kc)) (by omega) (fun h => by rcases h with h | h; exact h.elim; omega)).kids (T' := fun b => w.heap.size ≤ b) (fun b h => by rcases h with h | h; exact h.elim; omega) (fun b h => by omega)
        rw [HES.out] at hkids
        exact bodyPost_ret (v := sixV 9 false none 0 0 0 ⟨#[]⟩ ka es.length kc) (by simp [results, Tryz.results43, go_sem, e0, e1, e2, e3, e4, e5]) rfl ⟨_, rfl, ts, by have := HTS.out.1; have := HJ8.out; omega, HTS.out.2, hkids, Chg.below HB.out HB.out.size (put6_chg _ _ _ _ _ _ _ _) (by omega)⟩
      · have hge : ¬ ((j : Int) < (m2 : Int)) := by omega
        have hge2 : decide ((j : Int) < (m2 : Int)) = false := by simp; omega
        clear he hm hj8 hjm
        go_wp2
        obtain ⟨e0, e1, e2, e3, e4, e5⟩ := box6 (put6_heap HR1.out) (Below.refl _ (put6 wr (w.heap.size + 1) (.int .i64 9) (.bool false) (.slice none 0 0) (.int .u64 0) (.string ⟨#[]⟩) (.slice ka es.length kc)))
        unfold put6 at e0 e1 e2 e3 e4 e5
        have hkids := (HOWN.out.chg (put6_chg wr (w.heap.size + 1) (.int .i64 9) (.bool false) (.slice none 0 0) (.int .u64 0) (.string ⟨#[]⟩) (.slice ka es.length kc)) (by omega) (fun h => by rcases h with h | h; exact h.elim; omega)).kids (T' := fun b => w.heap.size ≤ b) (fun b h => by rcases h with h | h; exact h.elim; omega) (fun b h => by omega)
        rw [HES.out] at hkids
        exact bodyPost_ret (v := sixV 9 false none 0 0 0 ⟨#[]⟩ ka es.length kc) (by simp [results, Tryz.results43, go_sem, e0, e1, e2, e3, e4, e5]) rfl ⟨_, rfl, ts, by have := HTS.out.1; have := HJ8.out; omega, HTS.out.2, hkids, Chg.below HB.out HB.out.size (put6_chg _ _ _ _ _ _ _ _) (by omega)⟩
end Go.Proofs.YtpcleebnfgnhdaaGreatDoor
